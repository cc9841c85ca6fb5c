/-
  THE WALK of zzCloneBlocks.
-/
import Derived.Test.Qxb6612454aClone
namespace Go.Proofs.Qxb6612454a
open Go.RowKit

/-- The relation behind k rounds: the first k pieces are copied. -/
structure Part (w wr : World) (n k : Nat) (us : List Value) (D : List Piece) : Prop where
  below : Below w.heap.size w wr
  len : us.length = k
  own : wr.ownsRow w.heap.size 23 1 (.slice (some ⟨w.heap.size, 0, none⟩) n n) n (us ++ List.replicate (n - k) (.slice none 0 0))
  each : ∀ i, i < k → Holds wr w.heap.size (us.getD i .nilIface) (D.getD i noPiece)

theorem Part.zero {w w1 : World} {n : Nat} {D : List Piece} (hg : w.grownBy w1 none) (ho : w1.ownsRow w.heap.size 23 1 (.slice (some ⟨w.heap.size, 0, none⟩) n n) n (List.replicate n (.slice none 0 0))) : Part w w1 n 0 [] D :=
  ⟨(Below.refl _ _).grown hg (Nat.le_refl _) (by simp), rfl, by simpa using ho, fun i hi => absurd hi (Nat.not_lt_zero _)⟩

/-- A copy has been made: the row's facts in the world behind it. -/
theorem Part.later {w wr w1 : World} {n k : Nat} {us : List Value} {D : List Piece} (h : Part w wr n k us D) (hb : Below wr.heap.size wr w1) : Part w w1 n k us D :=
  ⟨h.below.trans (hb.mono h.below.size), h.len, own_below h.own hb, fun i hi => (h.each i hi).below hb⟩

theorem Part.store {w wr : World} {n k : Nat} {us : List Value} {D : List Piece} (h : Part w wr n k us D) (hk : k < n) {u : Value} (hu : Holds wr w.heap.size u (D.getD k noPiece)) :
    Part w (wr.setCell ⟨w.heap.size, k, none⟩ u) n (k + 1) (us ++ [u]) D := by
  obtain ⟨hs, hg⟩ := h.own.stored k u
  have keep : ∀ x d, Holds wr w.heap.size x d → Holds (wr.setCell ⟨w.heap.size, k, none⟩ u) w.heap.size x d := fun x d hx => ⟨hx.own.kept hg (own_apart hx.own h.own), hx.nil⟩
  refine ⟨h.below.setCell (Nat.le_refl _) _, by simp [h.len], ?_, fun i hi => ?_⟩
  · have e : (us ++ List.replicate (n - k) (Value.slice none 0 0)).set k u = us ++ [u] ++ List.replicate (n - (k + 1)) (Value.slice none 0 0) := by
      rw [List.set_append_right _ _ (by rw [h.len]; exact Nat.le_refl _), h.len, Nat.sub_self, show n - k = (n - (k + 1)) + 1 by omega, List.replicate_succ, List.set_cons_zero, List.append_assoc]
      rfl
    rw [← e]
    exact hs
  · by_cases hik : i < k
    · have e : (us ++ [u]).getD i .nilIface = us.getD i .nilIface := by
        simp [List.getD, List.getElem?_append_left (show i < us.length by rw [h.len]; exact hik)]
      rw [e]
      exact keep _ _ (h.each i hik)
    · obtain rfl : i = k := by omega
      have e : (us ++ [u]).getD i .nilIface = u := by
        simp [List.getD, h.len]
      rw [e]
      exact keep _ _ hu

theorem Part.cell {w wr : World} {n k : Nat} {us : List Value} {D : List Piece} (h : Part w wr n k us D) (hk : k < n) : wr.cell? ⟨w.heap.size, k, none⟩ = some (.slice none 0 0) := by
  rw [h.own.cellAt k (by omega), List.getElem?_append_right (by rw [h.len]; exact Nat.le_refl _), h.len, Nat.sub_self]
  simp [show 0 < n - k by omega]

theorem Part.full {w wr : World} {n : Nat} {us : List Value} {D : List Piece} (h : Part w wr n n us D) (hD : D.length = n) : HoldsB wr w.heap.size (.slice (some ⟨w.heap.size, 0, none⟩) n n) us D :=
  ⟨by rw [h.len, hD], by rw [hD]; simpa using h.own, fun i hi => h.each i (by omega)⟩

/-- A copy of a slice of slices, in new memory. -/
structure ClonedB (w w' : World) (D : List Piece) (v : Value) (us : List Value) : Prop where
  below : Below w.heap.size w w'
  holds : HoldsB w' w.heap.size v us D

set_option maxHeartbeats 400000 in
theorem cloneBlocks_any (ao : Option Addr) (n cap : Nat) (D : List Piece) (w : World) (hr : ReadsB w ao n cap D) (hb : n ≤ 1048576) (hl : ∀ i, i < n → (D.getD i noPiece).2.length ≤ 1048576) :
    Calls Try.prog 7 #[.slice ao n cap] w fun e w' => ∃ ao' cap' us, e = .returned (.slice ao' n cap') ∧ ClonedB w w' D (.slice ao' n cap') us := by
  have hnil := fun w => Lib.run_eql_slice_nil (P := Try.prog) w 22 23 ao n cap 0 0 Try.underlying22
  obtain ⟨i0, hi, hz0, hz1, hz2⟩ := info_parts info23
  cases ao with
  | none =>
    obtain ⟨rfl, rfl⟩ := hr.nilCase rfl
    have hD : D = [] := List.eq_nil_of_length_eq_zero hr.len
    subst hD
    go_enter Try.func7, Try.ntmps7
    go_wp2
    go_ret
    exact ⟨_, _, [], rfl, Below.refl _ _, rfl, World.ownsRow_nil _ _ _ _, fun i hi => absurd hi (Nat.not_lt_zero _)⟩
  | some a =>
    obtain ⟨b, off, sp⟩ := a
    have hlen := hr.len
    go_enter Try.func7, Try.ntmps7
    go_wp2_with (at_make; refine wpList_make_full _ rfl _ _ 22 rfl w.heap.size 23 i0 (.slice none 0 0) 1 Try.underlying22 hi hz0 hz1 _ _ _ _ n rfl rfl rfl rfl ?b1 ?b2 ?b3 ?_)
    case b1 => rw [hz2]; omega
    case b2 => unfold maxLen; omega
    case b3 => exact Nat.le_refl _
    intro w1 hown hgrow
    have R0 : Part w w1 n 0 [] D := by
      have e : (madeCells #[Value.slice none 0 0] n).toList = List.replicate n (.slice none 0 0) := toList_madeCells_one _ _
      exact Part.zero hgrow (by rw [← e]; simpa using hown)
    clear hown hgrow
    go_wp2
    go_loopw [4] (fun i wr => ∃ (k : Nat) (us : List Value), k ≤ n ∧ i = .int .i64 k ∧ Part w wr n k us D) (fun i _ => n - (intOf i).toNat)
    case atStart => exact ⟨0, [], Nat.zero_le _, rfl, R0⟩
    case round =>
      clear R0
      obtain ⟨k, us, hk, rfl, hp⟩ := hrel
      by_cases hlt : k < n
      · obtain ⟨hsp, hblk, ai, ni, ci, hc0, hri, hni⟩ := hr.opened hlt
        subst hsp
        have hcx : wr.cell? ⟨b, off + k, none⟩ = some (.slice ai ni ci) := (hp.below.cell (by exact hblk)).trans hc0
        have hrx : Reads wr ai ni ci (D.getD k noPiece).2 := hri.below hp.below (Nat.le_refl _)
        have hbx : ni ≤ 1048576 := by have := hl k hlt; have := hri.len; omega
        clear hc0 hri
        go_wp2_with fail
        refine (cloneBytes_any ai ni ci (D.getD k noPiece).2 _ hrx hbx).mono ?_
        rintro e w2 ⟨ao', cap', rfl, hcl⟩
        have hp2 := hp.later hcl.below
        have hcy := hp2.cell hlt
        have hfy : w2.frozen? ⟨w.heap.size, k, none⟩ = false := hp2.own.frozenAt k
        have R : Hid (Part w (w2.setCell ⟨w.heap.size, k, none⟩ (.slice ao' ni cap')) n (k + 1) (us ++ [.slice ao' ni cap']) D) :=
          hp2.store hlt ⟨ownsRow_base hcl.own hp.below.size, by rw [hcl.nil, hni]⟩
        clear hp hcl hp2 hrx hcx
        go_wp2
        go_roundw
        case rel => exact ⟨k + 1, _, by omega, by go_num, R⟩
        case measure => simp [intOf]; omega
      · obtain rfl : k = n := by omega
        have X : Hid (ClonedB w wr D (.slice (some ⟨w.heap.size, 0, none⟩) k k) us) := ⟨hp.below, hp.full hlen⟩
        clear hp
        go_wp2
        go_ret
        exact ⟨_, _, _, rfl, X⟩

end Go.Proofs.Qxb6612454a
