/-
  THE WALKS of the two zzBytes: each answers some bool; nothing turns.
-/
import Derived.Test.Qxb6612454aReads
namespace Go.Proofs.Qxb6612454a
open Go.RowKit

/-- Some bool; the world as it was. -/
def SomeBool (w : World) (e : Ending) (w' : World) : Prop := ∃ r, e = .returned (.bool r) ∧ w = w'

set_option maxHeartbeats 800000 in
theorem bytes5_any (ao : Option Addr) (n cap : Nat) (D : List Piece) (ao' : Option Addr) (n' cap' : Nat) (z : Int) (w : World) (hr : ReadsB w ao n cap D) :
    Calls Try.prog 5 #[.slice ao n cap, .slice ao' n' cap', .int .i64 z] w fun e w' => SomeBool w e w' := by
  by_cases hn : n ≤ 1048576
  · have hn' : ¬ (1048576 : Int) < (n : Int) := by omega
    go_enter Try.func5, Try.ntmps5
    go_wp2
    go_loop [7, 8] (fun t i => ∃ k q : Nat, k ≤ n ∧ q ≤ 1048576 ∧ i = .int .i64 k ∧ t = .int .i64 q) (fun _ i => n - (intOf i).toNat)
    case atStart => exact ⟨0, n, Nat.zero_le _, hn, rfl, by go_num⟩
    case round =>
      obtain ⟨k, q, hk, hq, rfl, rfl⟩ := hrel
      by_cases hlt : k < n
      · cases ao with
        | none => have := (hr.nilCase rfl).1; omega
        | some a =>
          obtain ⟨b, off, sp⟩ := a
          obtain ⟨rfl, _, ai, ni, ci, hc, _⟩ := hr.opened hlt
          clear hr
          by_cases h1 : (1048576 : Int) < (ni : Int)
          · go_wp2
            go_ret
            exact ⟨false, rfl, rfl⟩
          · by_cases h2 : (1048576 : Int) < (q : Int) + (ni : Int)
            · go_wp2
              go_ret
              exact ⟨false, rfl, rfl⟩
            · go_wp2
              go_round
              case rel => exact ⟨k + 1, q + ni, by omega, by omega, by go_num, by go_num⟩
              case measure => simp [intOf]; omega
      · clear hr
        by_cases h1 : (1048576 : Int) < (n' : Int)
        · go_wp2
          go_ret
          exact ⟨false, rfl, rfl⟩
        · by_cases h2 : (1048576 : Int) < (q : Int) + (n' : Int)
          · go_wp2
            go_ret
            exact ⟨false, rfl, rfl⟩
          · go_wp2
            go_ret
            exact ⟨true, rfl, rfl⟩
  · have hn' : (1048576 : Int) < (n : Int) := by omega
    go_enter Try.func5, Try.ntmps5
    go_wp2
    go_ret
    exact ⟨false, rfl, rfl⟩

set_option maxHeartbeats 800000 in
theorem bytes13_any (ao : Option Addr) (n cap : Nat) (D : List Piece) (w : World) (hr : ReadsB w ao n cap D) :
    Calls Try.prog 13 #[.slice ao n cap] w fun e w' => SomeBool w e w' := by
  by_cases hn : n ≤ 1048576
  · have hn' : ¬ (1048576 : Int) < (n : Int) := by omega
    go_enter Try.func13, Try.ntmps13
    go_wp2
    go_loop [3, 4] (fun t i => ∃ k q : Nat, k ≤ n ∧ q ≤ 1048576 ∧ i = .int .i64 k ∧ t = .int .i64 q) (fun _ i => n - (intOf i).toNat)
    case atStart => exact ⟨0, n, Nat.zero_le _, hn, rfl, by go_num⟩
    case round =>
      obtain ⟨k, q, hk, hq, rfl, rfl⟩ := hrel
      by_cases hlt : k < n
      · cases ao with
        | none => have := (hr.nilCase rfl).1; omega
        | some a =>
          obtain ⟨b, off, sp⟩ := a
          obtain ⟨rfl, _, ai, ni, ci, hc, _⟩ := hr.opened hlt
          clear hr
          by_cases h1 : (1048576 : Int) < (ni : Int)
          · go_wp2
            go_ret
            exact ⟨false, rfl, rfl⟩
          · by_cases h2 : (1048576 : Int) < (q : Int) + (ni : Int)
            · go_wp2
              go_ret
              exact ⟨false, rfl, rfl⟩
            · go_wp2
              go_round
              case rel => exact ⟨k + 1, q + ni, by omega, by omega, by go_num, by go_num⟩
              case measure => simp [intOf]; omega
      · clear hr
        go_wp2
        go_ret
        exact ⟨true, rfl, rfl⟩
  · have hn' : (1048576 : Int) < (n : Int) := by omega
    go_enter Try.func13, Try.ntmps13
    go_wp2
    go_ret
    exact ⟨false, rfl, rfl⟩

end Go.Proofs.Qxb6612454a
