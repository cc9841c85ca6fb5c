/-
  THE WALKS of zzCloneBytes and zzCloneBlocks.
-/
import Derived.Test.Qxb6612454aParts
namespace Go.Proofs.Qxb6612454a
open Go.RowKit

/-- A copy in new memory. -/
structure Cloned (w w' : World) (nl : Bool) (l : List Int) (v : Value) : Prop where
  below : Below w.heap.size w w'
  own : w'.ownsRow w.heap.size 5 1 v l.length (cellsOf l)
  nil : v = .slice none 0 0 ↔ nl = true

def half (l : List Int) (n k : Nat) : List Value := cellsOf (l.take k) ++ List.replicate (n - k) (.int .u8 0)

theorem half_set (l : List Int) (n k : Nat) (hn : l.length = n) (hk : k < n) : (half l n k).set k (.int .u8 (l.getD k 0)) = half l n (k + 1) := by
  have e1 : (cellsOf (l.take k)).length = k := by simp [cellsOf]; omega
  have e2 : n - k = (n - (k + 1)) + 1 := by omega
  unfold half
  rw [List.set_append_right _ _ (by omega), e1, Nat.sub_self, e2, List.replicate_succ, List.set_cons_zero]
  have hk' : k < l.length := by omega
  have e3 : cellsOf (l.take (k + 1)) = cellsOf (l.take k) ++ [.int .u8 (l.getD k 0)] := by
    rw [List.take_succ_eq_append_getElem hk']
    unfold cellsOf
    rw [List.map_append]
    simp [List.getD, hk']
  rw [e3, List.append_assoc]
  rfl

theorem half_zero (l : List Int) (n : Nat) : half l n 0 = List.replicate n (.int .u8 0) := by simp [half, cellsOf]
theorem half_full (l : List Int) (n : Nat) (hn : l.length = n) : half l n n = cellsOf l := by
  simp [half, List.take_of_length_le (Nat.le_of_eq hn)]

theorem half_at (l : List Int) (n k : Nat) (hn : l.length = n) (hk : k < n) : (half l n k)[k]? = some (.int .u8 0) := by
  have e1 : (cellsOf (l.take k)).length = k := by simp [cellsOf]; omega
  unfold half
  rw [List.getElem?_append_right (by omega), e1, Nat.sub_self]
  simp [show 0 < n - k by omega]

set_option maxHeartbeats 400000 in
theorem cloneBytes_any (ao : Option Addr) (n cap : Nat) (l : List Int) (w : World) (hr : Reads w ao n cap l) (hb : n ≤ 1048576) :
    Calls Try.prog 8 #[.slice ao n cap] w fun e w' => ∃ ao' cap', e = .returned (.slice ao' n cap') ∧ Cloned w w' ao.isNone l (.slice ao' n cap') := by
  have hnil := fun w => Lib.run_eql_slice_nil (P := Try.prog) w 23 5 ao n cap 0 0 Try.underlying23
  obtain ⟨i0, hi, hz0, hz1, hz2⟩ := info_parts info5
  cases ao with
  | none =>
    obtain ⟨rfl, rfl⟩ := hr.nilCase rfl
    have hl : l = [] := List.eq_nil_of_length_eq_zero hr.len
    subst hl
    go_enter Try.func8, Try.ntmps8
    go_wp2
    go_ret
    exact ⟨_, _, rfl, Below.refl _ _, World.ownsRow_nil _ _ _ _, by simp⟩
  | some a =>
    obtain ⟨b, off, sp⟩ := a
    have hlen := hr.len
    go_enter Try.func8, Try.ntmps8
    go_wp2_with (at_make; refine wpList_make_full _ rfl _ _ 23 rfl w.heap.size 5 i0 (.int .u8 0) 1 Try.underlying23 hi hz0 hz1 _ _ _ _ n rfl rfl rfl rfl ?b1 ?b2 ?b3 ?_)
    case b1 => rw [hz2]; omega
    case b2 => unfold maxLen; omega
    case b3 => exact Nat.le_refl _
    intro w1 hown hgrow
    have R0 : w1.ownsRow w.heap.size 5 1 (.slice (some ⟨w.heap.size, 0, none⟩) n n) n (half l n 0) ∧ Below w.heap.size w w1 := by
      refine ⟨?_, (Below.refl _ _).grown hgrow (Nat.le_refl _) (by simp)⟩
      rw [half_zero]
      have e : (madeCells #[Value.int .u8 0] n).toList = List.replicate n (.int .u8 0) := toList_madeCells_one _ _
      rw [← e]
      simpa using hown
    clear hown hgrow
    go_wp2
    go_loopw [4] (fun i wr => ∃ k : Nat, k ≤ n ∧ i = .int .i64 k ∧ wr.ownsRow w.heap.size 5 1 (.slice (some ⟨w.heap.size, 0, none⟩) n n) n (half l n k) ∧ Below w.heap.size w wr) (fun i _ => n - (intOf i).toNat)
    case atStart => exact ⟨0, Nat.zero_le _, rfl, R0.1, R0.2⟩
    case round =>
      clear R0
      obtain ⟨k, hk, rfl, hown, hbel⟩ := hrel
      by_cases hlt : k < n
      · obtain ⟨hsp, hblk, hc0⟩ := hr.opened hlt
        subst hsp
        have hset := half_set l n k hlen hlt
        generalize l.getD k 0 = x at hc0 hset
        have hcx : wr.cell? ⟨b, off + k, none⟩ = some (.int .u8 x) := (hbel.cell (by exact hblk)).trans hc0
        have hcy : wr.cell? ⟨w.heap.size, k, none⟩ = some (.int .u8 0) := by rw [hown.cellAt k (by omega)]; exact half_at l n k hlen hlt
        have hfy : wr.frozen? ⟨w.heap.size, k, none⟩ = false := hown.frozenAt k
        have R : Hid ((wr.setCell ⟨w.heap.size, k, none⟩ (.int .u8 x)).ownsRow w.heap.size 5 1 (.slice (some ⟨w.heap.size, 0, none⟩) n n) n (half l n (k + 1)) ∧ Below w.heap.size w (wr.setCell ⟨w.heap.size, k, none⟩ (.int .u8 x))) := by
          refine ⟨?_, hbel.setCell (Nat.le_refl _) _⟩
          rw [← hset]
          exact (hown.stored k _).1
        clear hown hbel hc0 hset
        go_wp2
        go_roundw
        case rel => exact ⟨k + 1, by omega, by go_num, R.out.1, R.out.2⟩
        case measure => simp [intOf]; omega
      · obtain rfl : k = n := by omega
        rw [half_full l k hlen] at hown
        have X : Hid (Cloned w wr false l (.slice (some ⟨w.heap.size, 0, none⟩) k k)) := ⟨hbel, by rw [hlen]; exact hown, by simp⟩
        clear hown hbel
        go_wp2
        go_ret
        exact ⟨_, _, rfl, X⟩

end Go.Proofs.Qxb6612454a
