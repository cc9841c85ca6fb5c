/-
  THE WALKS of the functions that only read: zzEqualBytes, zzBlocksOver, the two zzBytes.
-/
import Derived.Test.Qxb6612454aParts
import Derived.Deep.QuietTactic
import Derived.BigQuiet
namespace Go.Proofs.Qxb6612454a
open Go.RowKit

theorem Reads.drewN {w : World} {ao : Option Addr} {n cap : Nat} {l : List Int} (h : Reads w ao n cap l) (m : Nat) : Reads (w.drewN m) ao n cap l := ⟨h.len, h.nilCase, h.cell⟩

/-- A quiet callee behind draws, in a world that itself stands behind draws. -/
theorem quiet_of2 {P : Program} {f : FuncId} {args : Array Value} {w : World} {m x : Nat} {v : Value}
    (h : Calls P f args (w.drewN (m + x)) fun e w' => e = .returned v ∧ ∃ q, w' = (w.drewN (m + x)).drewN q) : Calls P f args (w.drewN (m + x)) fun e w'' => e = .returned v ∧ ∃ n, w'' = w.drewN (m + n) :=
  h.mono fun _ _ ⟨he, q, hq⟩ => ⟨he, x + q, by rw [hq, World.drewN_drewN, Nat.add_assoc]⟩

set_option maxHeartbeats 400000 in
theorem equalBytes_same (ao ao' : Option Addr) (n cap cap' : Nat) (l : List Int) (w : World) (ha : Reads w ao n cap l) (hb : Reads w ao' n cap' l) (hn : n ≤ 1048576) :
    Calls Try.prog 12 #[.slice ao n cap, .slice ao' n cap'] w fun e w' => e = .returned (.bool true) ∧ ∃ m, w' = w.drewN m := by
  have hne : ((n : Int) != (n : Int)) = false := by simp
  go_enter Try.func12, Try.ntmps12
  go_wp2
  go_loopw [5] (fun i wr => ∃ k m : Nat, k ≤ n ∧ i = .int .i64 k ∧ wr = w.drewN m) (fun i _ => n - (intOf i).toNat)
  case atStart => exact ⟨0, 0, Nat.zero_le _, rfl, rfl⟩
  case round =>
    obtain ⟨k, m, hk, rfl, rfl⟩ := hrel
    by_cases hlt : k < n
    · cases ao with
      | none => have := (ha.nilCase rfl).1; omega
      | some a =>
        cases ao' with
        | none => have := (hb.nilCase rfl).1; omega
        | some a' =>
          obtain ⟨b, off, sp⟩ := a
          obtain ⟨b', off', sp'⟩ := a'
          obtain ⟨rfl, _, hc⟩ := ha.opened hlt
          obtain ⟨rfl, _, hc'⟩ := hb.opened hlt
          generalize l.getD k 0 = x at hc hc'
          have h0 : (0 : Int) ≤ (k : Int) := by omega
          have h1 : (k : Int) < (n : Int) := by omega
          clear ha hb
          go_wp2
          go_quiet (fail)
          go_wp2
          go_roundw
          case rel => exact ⟨k + 1, _, by omega, by go_num, rfl⟩
          case measure => simp [intOf]; omega
    · go_wp2
      go_ret
      exact ⟨rfl, m, rfl⟩

/-- How many bytes the first k pieces hold. -/
def total (D : List Piece) (k : Nat) : Nat := ((D.take k).map (fun d => d.2.length)).sum

theorem total_zero (D : List Piece) : total D 0 = 0 := rfl
theorem total_succ (D : List Piece) (k : Nat) (hk : k < D.length) : total D (k + 1) = total D k + (D.getD k noPiece).2.length := by
  unfold total
  rw [List.take_succ_eq_append_getElem hk, List.map_append, List.sum_append]
  simp [List.getD, hk]
theorem total_mono (D : List Piece) (j k : Nat) (h : j ≤ k) : total D j ≤ total D k := by
  induction k with
  | zero => obtain rfl : j = 0 := by omega
            exact Nat.le_refl _
  | succ k ih =>
    by_cases hj : j = k + 1
    · subst hj; exact Nat.le_refl _
    · have h1 := ih (by omega)
      by_cases hk : k < D.length
      · have := total_succ D k hk; omega
      · have e : total D (k + 1) = total D k := by
          unfold total
          rw [List.take_of_length_le (by omega), List.take_of_length_le (by omega)]
        omega
theorem total_each (D : List Piece) (k : Nat) (hk : k < D.length) : (D.getD k noPiece).2.length ≤ total D D.length := by
  have h1 := total_succ D k hk
  have h2 := total_mono D (k + 1) D.length hk
  omega

/-- What zzBlocksOver says. -/
def Over (w : World) (m : Nat) (e : Ending) (w' : World) : Prop := ∃ r, e = .returned (.bool r) ∧ w = w' ∧ (r = false → m ≤ 1048576)

set_option maxHeartbeats 400000 in
theorem blocksOver_any (ao : Option Addr) (n cap : Nat) (D : List Piece) (s : Nat) (w : World) (hr : ReadsB w ao n cap D) (hn : n ≤ 4096) (hs : s ≤ 1048576) :
    Calls Try.prog 6 #[.slice ao n cap, .int .i64 s, .int .i64 1048576] w fun e w' => Over w (s + 24 * n + total D n) e w' := by
  have hlen := hr.len
  by_cases h0 : s + 24 * n ≤ 1048576
  · have g0 : (s : Int) + 24 * (n : Int) ≤ 1048576 := by omega
    go_enter Try.func6, Try.ntmps6
    go_wp2
    go_loop [7, 8] (fun t i => ∃ k : Nat, k ≤ n ∧ i = .int .i64 k ∧ s + 24 * n + total D k ≤ 1048576 ∧ t = .int .i64 (s + 24 * n + total D k : Nat)) (fun _ i => n - (intOf i).toNat)
    case atStart => exact ⟨0, Nat.zero_le _, rfl, by rw [total_zero]; omega, by rw [total_zero]; go_num⟩
    case round =>
      obtain ⟨k, hk, rfl, ht, rfl⟩ := hrel
      by_cases hlt : k < n
      · cases ao with
        | none => have := (hr.nilCase rfl).1; omega
        | some a =>
          obtain ⟨b, off, sp⟩ := a
          obtain ⟨rfl, _, ai, ni, ci, hc, hri, _⟩ := hr.opened hlt
          have HS : Hid (s + 24 * n + total D (k + 1) = s + 24 * n + total D k + ni) := by
            have h1 := total_succ D k (by omega)
            have h2 := hri.len
            show s + 24 * n + total D (k + 1) = s + 24 * n + total D k + ni
            omega
          generalize s + 24 * n + total D k = T at ht HS
          clear hri hr hlen g0
          by_cases hov : 1048576 - T < ni
          · have hov' : (1048576 : Int) - (T : Int) < (ni : Int) := by omega
            go_wp2
            go_ret
            exact ⟨true, rfl, rfl, by simp⟩
          · have hov' : ¬ (1048576 : Int) - (T : Int) < (ni : Int) := by omega
            go_wp2
            go_round
            case rel => exact ⟨k + 1, by omega, by go_num, by rw [HS.out]; omega, by rw [HS.out]; go_num⟩
            case measure => simp [intOf]; omega
      · obtain rfl : k = n := by omega
        go_wp2
        go_ret
        exact ⟨false, rfl, rfl, fun _ => ht⟩
  · have g0 : ¬ (s : Int) + 24 * (n : Int) ≤ 1048576 := by omega
    go_enter Try.func6, Try.ntmps6
    go_wp2
    go_ret
    exact ⟨true, rfl, rfl, by simp⟩

end Go.Proofs.Qxb6612454a
