/-
  THE WALKS of the functions that only read: zzEqualBytes, zzBytes.
-/
import Derived.Test.Qxb6612454aDoorParts
import Derived.Deep.QuietTactic
import Derived.BigQuiet
namespace Go.Proofs.Qxb6612454aDoor
open Go.RowKit

theorem Reads.drewN {w : World} {ao : Option Addr} {n cap : Nat} {l : List Int} (h : Reads w ao n cap l) (m : Nat) : Reads (w.drewN m) ao n cap l := ⟨h.len, h.nilCase, h.cell⟩

/-- A quiet callee behind draws, in a world that itself stands behind draws. -/
theorem quiet_of2 {P : Program} {f : FuncId} {args : Array Value} {w : World} {m x : Nat} {v : Value}
    (h : Calls P f args (w.drewN (m + x)) fun e w' => e = .returned v ∧ ∃ q, w' = (w.drewN (m + x)).drewN q) : Calls P f args (w.drewN (m + x)) fun e w'' => e = .returned v ∧ ∃ n, w'' = w.drewN (m + n) :=
  h.mono fun _ _ ⟨he, q, hq⟩ => ⟨he, x + q, by rw [hq, World.drewN_drewN, Nat.add_assoc]⟩

set_option maxHeartbeats 400000 in
theorem equalBytes_same (ao ao' : Option Addr) (n cap cap' : Nat) (l : List Int) (w : World) (ha : Reads w ao n cap l) (hb : Reads w ao' n cap' l) (hn : n ≤ 1048576) :
    Calls Tryd.prog 8 #[.slice ao n cap, .slice ao' n cap'] w fun e w' => e = .returned (.bool true) ∧ ∃ m, w' = w.drewN m := by
  have hne : ((n : Int) != (n : Int)) = false := by simp
  go_enter Tryd.func8, Tryd.ntmps8
  go_wp2
  go_loopw [5] (fun i wr => ∃ k m : Nat, k ≤ n ∧ i = .int .i64 k ∧ wr = w.drewN m) (fun i _ => n - (intOf i).toNat)
  case atStart => exact ⟨0, 0, Nat.zero_le _, rfl, rfl⟩
  case round =>
    obtain ⟨k, m, hk, rfl, rfl⟩ := hrel
    by_cases hlt : k < n
    · cases ao with
      | none => have := (ha.nilCase rfl).1; omega
      | some a =>
        cases ao' with
        | none => have := (hb.nilCase rfl).1; omega
        | some a' =>
          obtain ⟨b, off, sp⟩ := a
          obtain ⟨b', off', sp'⟩ := a'
          obtain ⟨rfl, _, hc⟩ := ha.opened hlt
          obtain ⟨rfl, _, hc'⟩ := hb.opened hlt
          generalize l.getD k 0 = x at hc hc'
          have h0 : (0 : Int) ≤ (k : Int) := by omega
          have h1 : (k : Int) < (n : Int) := by omega
          clear ha hb
          go_wp2
          go_quiet (fail)
          go_wp2
          go_roundw
          case rel => exact ⟨k + 1, _, by omega, by go_num, rfl⟩
          case measure => simp [intOf]; omega
    · go_wp2
      go_ret
      exact ⟨rfl, m, rfl⟩

/-- Some bool; the world as it was. -/
def SomeBool (w : World) (e : Ending) (w' : World) : Prop := ∃ r, e = .returned (.bool r) ∧ w = w'

set_option maxHeartbeats 400000 in
theorem bytes4_any (ao : Option Addr) (n cap : Nat) (x y z : Int) (w : World) :
    Calls Tryd.prog 4 #[.slice ao n cap, .int .i64 x, .int .i64 y, .int .i64 z] w fun e w' => SomeBool w e w' := by
  by_cases hn : n ≤ 1048576
  · have hn' : ¬ (1048576 : Int) < (n : Int) := by omega
    go_enter Tryd.func4, Tryd.ntmps4
    go_wp2
    go_ret
    exact ⟨true, rfl, rfl⟩
  · have hn' : (1048576 : Int) < (n : Int) := by omega
    go_enter Tryd.func4, Tryd.ntmps4
    go_wp2
    go_ret
    exact ⟨false, rfl, rfl⟩

end Go.Proofs.Qxb6612454aDoor
