/-
  LAW 1, THE WALK: FnMemorySpillWriteAddsOwnCopy returns true, whatever it is handed.
-/
import Derived.Test.Qxb6612454aBytes
import Derived.Test.Qxb6612454aLawAParts
namespace Go.Proofs.Qxb6612454a
open Go.RowKit

set_option maxHeartbeats 1600000 in
theorem lawA_walk (ao : Option Addr) (n cap : Nat) (D : List Piece) (ao' : Option Addr) (n' cap' : Nat) (l : List Int) (z : Int) (w : World) (hr : ReadsB w ao n cap D) (hrb : Reads w ao' n' cap' l) :
    Calls Try.prog 3 #[.slice ao n cap, .slice ao' n' cap', .int .i64 z] w fun e w' => e = .returned (.bool true) ∧ Below w.heap.size w w' := by
  have hlen := hr.len
  have hlenb := hrb.len
  go_enter Try.func3, Try.ntmps3
  go_wp2_with fail
  refine (bytes5_any ao n cap D ao' n' cap' z _ hr).mono ?_
  rintro e w1 ⟨r, rfl, rfl⟩
  cases r with
  | false =>
    go_wp2_with fail
    go_ret
    exact ⟨rfl, Below.refl _ _⟩
  | true =>
    rcases Nat.lt_or_ge 4096 n with h1 | h1
    · have h1' : (4096 : Int) < (n : Int) := by omega
      go_wp2_with fail
      go_ret
      exact ⟨rfl, Below.refl _ _⟩
    rcases Nat.lt_or_ge 1048576 n' with h2 | h2
    · have h1' : ¬ (4096 : Int) < (n : Int) := by omega
      have h2' : (1048576 : Int) < (n' : Int) := by omega
      go_wp2_with fail
      go_ret
      exact ⟨rfl, Below.refl _ _⟩
    have h1' : ¬ (4096 : Int) < (n : Int) := by omega
    have h2' : ¬ (1048576 : Int) < (n' : Int) := by omega
    go_wp2_with fail
    refine (blocksOver_any ao n cap D n' _ hr h1 h2).mono ?_
    rintro e w1 ⟨r, rfl, rfl, hsum⟩
    cases r with
    | true =>
      go_wp2_with fail
      go_ret
      exact ⟨rfl, Below.refl _ _⟩
    | false =>
      have hsum := hsum rfl
      have hl : ∀ i, i < n → (D.getD i noPiece).2.length ≤ 1048576 := fun i hi => by
        have := total_each D i (by omega)
        rw [hlen] at this
        omega
      clear hsum h1' h2'
      go_wp2_with fail
      refine (cloneBlocks_any ao n cap D _ hr (by omega) hl).mono ?_
      rintro e wA ⟨aA, cA, usA, rfl, hA⟩
      have hrbA : Reads wA ao' n' cap' l := hrb.below hA.below (Nat.le_refl _)
      go_wp2_with fail
      refine (cloneBytes_any ao' n' cap' l _ hrbA h2).mono ?_
      rintro e wB ⟨aB, cB, rfl, hB⟩
      have HA : ReadsB wA aA n cA D := by
        obtain ⟨a1, c1, he, hh⟩ := hA.holds.reads
        rw [hlen] at he hh
        simp at he
        obtain ⟨rfl, rfl⟩ := he
        exact hh
      have HB : Reads wB aB n' cB l := by
        obtain ⟨a1, c1, he, hh⟩ := reads_of_own hB.own
        rw [hlenb] at he hh
        simp at he
        obtain ⟨rfl, rfl⟩ := he
        exact hh
      have HAB := HA.below hB.below (Nat.le_refl _)
      go_wp2_with fail
      refine (cloneBlocks_any aA n cA D _ HAB (by omega) hl).mono ?_
      rintro e wC ⟨aC, cC, usC, rfl, hC⟩
      have HBC := HB.below hC.below (Nat.le_refl _)
      go_wp2_with fail
      refine (cloneBytes_any aB n' cB l _ HBC h2).mono ?_
      rintro e wD ⟨aD, cD, rfl, hD⟩
      go_wp2_with fail
      refine (new_any aA n cA _).mono ?_
      rintro e wE ⟨rfl, rfl⟩
      have hS := heap_alloc_new wD (.cells #[.slice aA n cA] 38)
      go_wp2_with fail
      have hownE : (wD.alloc (.cells #[.slice aA n cA] 38)).ownsRow w.heap.size 23 1 (.slice aA n cA) n usA := by
        have := hA.holds.own
        rw [hlen] at this
        exact (own_below (own_below (own_below this hB.below) hC.below) hD.below).alloc _
      have hrE : Reads (wD.alloc (.cells #[.slice aA n cA] 38)) aB n' cB l := (HBC.below hD.below (Nat.le_refl _)).below ((Below.refl wD.heap.size _).alloc (Nat.le_refl _) _) (Nat.le_refl _)
      have hszE : w.heap.size ≤ (wD.alloc (.cells #[.slice aA n cA] 38)).heap.size := by
        have := hA.below.size; have := hB.below.size; have := hC.below.size; have := hD.below.size; simp; omega
      refine (zzwrite_any wD.heap.size w.heap.size aA n cA usA aB n' cB l z _ hS hownE hszE hrE h2 (by omega)).mono ?_
      rintro e wF ⟨v', u, rfl, hW⟩
      clear hownE hrE hszE hS
      rcases Nat.eq_zero_or_pos n' with h0 | h0
      · have hz : ¬ (0 : Int) < (n' : Int) := by omega
        clear h0
        obtain ⟨g, cg, rfl, hR⟩ := ready_of hlen hlenb hA hB.below hC hD hW (Touched.refl _ _ _)
        have HR := hR.spill
        clear hW hA hB hC hD HA HB HAB HBC hrbA hr hrb
        go_wp2_with fail
        obtain ⟨wG, rfl⟩ : ∃ wG, wG = wF := ⟨_, rfl⟩
        refine (blocks_any wD.heap.size _ _ _ _ HR).mono ?_
        rintro e wH ⟨rfl, rfl⟩
        go_wp2
        go_loopw [11] (fun i wr => ∃ k m : Nat, k ≤ n ∧ i = .int .i64 k ∧ wr = wG.drewN m) (fun i _ => n - (intOf i).toNat)
        case atStart => exact ⟨0, 0, Nat.zero_le _, rfl, rfl⟩
        case round =>
          obtain ⟨k, m, hk, rfl, rfl⟩ := hrel
          rcases Nat.lt_or_ge k n with hlt | hge
          · obtain ⟨_, _, ai, ni, ci, hc, hri, hni⟩ := hR.after.opened (k := k) (by omega)
            rw [getD_snoc_lt _ _ _ _ (by omega)] at hri hni
            cases aC with
            | none => have := (hR.ref.nilCase rfl).1; omega
            | some a =>
              obtain ⟨bC, oC, sC⟩ := a
              obtain ⟨rfl, _, aj, nj, cj, hc', hrj, hnj⟩ := hR.ref.opened hlt
              have hle := hl k hlt
              generalize D.getD k noPiece = d at hri hrj hni hnj hle
              obtain ⟨nk, lk⟩ := d
              obtain rfl := hri.len
              obtain rfl := hrj.len
              dsimp only at hri hrj hni hnj hle hc hc'
              have hcx : wG.cell? ⟨g, k, none⟩ = some (.slice ai lk.length ci) := by simpa using hc
              have hcy : wG.cell? ⟨bC, oC + k, none⟩ = some (.slice aj lk.length cj) := hc'
              have ni := fun w => Lib.run_eql_slice_nil (P := Try.prog) w 23 5 ai lk.length ci 0 0 Try.underlying23
              have nj := fun w => Lib.run_eql_slice_nil (P := Try.prog) w 23 5 aj lk.length cj 0 0 Try.underlying23
              rw [hni] at ni
              rw [hnj] at nj
              have k0 : (0 : Int) ≤ (k : Int) := by omega
              have k1 : (k : Int) < (n : Int) := by omega
              have k2 : (k : Int) < (n : Int) + 1 := by omega
              clear hni hnj hc hc'
              go_wp2
              go_quiet ((go_at_call 12; refine quiet_of2 (equalBytes_same ai aj lk.length ci cj lk _ ?_ ?_ hle); exact hri.drewN _; exact hrj.drewN _))
              go_wp2
              go_roundw
              case rel => exact ⟨k + 1, _, by omega, by go_num, rfl⟩
              case measure => simp [intOf]; omega
          · obtain rfl : k = n := by omega
            obtain ⟨_, _, ai, ni, ci, hc, hri, hni⟩ := hR.after.opened (k := k) (by omega)
            have e1 : (D ++ [(aB.isNone, l)]).getD k noPiece = (aB.isNone, l) := by rw [← hlen]; exact getD_snoc_at _ _ _
            rw [e1] at hri hni
            obtain rfl := hri.len
            have hrb := hR.bref
            have hnb := hR.bnil
            have hbl := hR.below
            obtain rfl := hrb.len
            dsimp only at hri hni
            have hcx : wG.cell? ⟨g, k, none⟩ = some (.slice ai l.length ci) := by simpa using hc
            have ni := fun w => Lib.run_eql_slice_nil (P := Try.prog) w 23 5 ai l.length ci 0 0 Try.underlying23
            have nj := fun w => Lib.run_eql_slice_nil (P := Try.prog) w 23 5 aD l.length cD 0 0 Try.underlying23
            rw [hni] at ni
            rw [hnb] at nj
            generalize aB.isNone = nl at ni nj
            clear e1 hni hnb hR hc hlen
            go_wp2_with fail
            refine (equalBytes_same ai aD l.length ci cD l _ (hri.drewN _) (hrb.drewN _) h2).mono ?_
            rintro e w2 ⟨rfl, q, rfl⟩
            go_wp2
            go_ret
            exact ⟨rfl, below_drewN hbl _⟩
      · have hz : (0 : Int) < (n' : Int) := by omega
        obtain ⟨gB, rfl, hg1, hg2, hcB, hfB⟩ := b_at hlenb h0 hA hB hC hD hW
        have hT := fun y => ready_of hlen hlenb hA hB.below hC hD hW (Touched.setCell _ _ wF ⟨gB, 0, none⟩ y hg1 hg2)
        generalize l.getD 0 0 = x0 at hcB
        clear hW hA hB hC hD HA HB HAB HBC hrbA hr hrb
        go_wp2_with fail
        obtain ⟨g, cg, rfl, hR⟩ := hT (.int .u8 (bits BinOp.xor .u8 x0 255))
        clear hT hfB hcB
        generalize wF.setCell ⟨gB, 0, none⟩ (.int .u8 (bits BinOp.xor .u8 x0 255)) = wG at hR ⊢
        have HR := hR.spill
        obtain ⟨aB, haB⟩ : ∃ aB : Option Addr, aB = some ⟨gB, 0, none⟩ := ⟨_, rfl⟩
        rw [← haB] at hR ⊢
        clear haB
        refine (blocks_any wD.heap.size _ _ _ _ HR).mono ?_
        rintro e wH ⟨rfl, rfl⟩
        go_wp2
        go_loopw [11] (fun i wr => ∃ k m : Nat, k ≤ n ∧ i = .int .i64 k ∧ wr = wG.drewN m) (fun i _ => n - (intOf i).toNat)
        case atStart => exact ⟨0, 0, Nat.zero_le _, rfl, rfl⟩
        case round =>
          obtain ⟨k, m, hk, rfl, rfl⟩ := hrel
          rcases Nat.lt_or_ge k n with hlt | hge
          · obtain ⟨_, _, ai, ni, ci, hc, hri, hni⟩ := hR.after.opened (k := k) (by omega)
            rw [getD_snoc_lt _ _ _ _ (by omega)] at hri hni
            cases aC with
            | none => have := (hR.ref.nilCase rfl).1; omega
            | some a =>
              obtain ⟨bC, oC, sC⟩ := a
              obtain ⟨rfl, _, aj, nj, cj, hc', hrj, hnj⟩ := hR.ref.opened hlt
              have hle := hl k hlt
              generalize D.getD k noPiece = d at hri hrj hni hnj hle
              obtain ⟨nk, lk⟩ := d
              obtain rfl := hri.len
              obtain rfl := hrj.len
              dsimp only at hri hrj hni hnj hle hc hc'
              have hcx : wG.cell? ⟨g, k, none⟩ = some (.slice ai lk.length ci) := by simpa using hc
              have hcy : wG.cell? ⟨bC, oC + k, none⟩ = some (.slice aj lk.length cj) := hc'
              have ni := fun w => Lib.run_eql_slice_nil (P := Try.prog) w 23 5 ai lk.length ci 0 0 Try.underlying23
              have nj := fun w => Lib.run_eql_slice_nil (P := Try.prog) w 23 5 aj lk.length cj 0 0 Try.underlying23
              rw [hni] at ni
              rw [hnj] at nj
              have k0 : (0 : Int) ≤ (k : Int) := by omega
              have k1 : (k : Int) < (n : Int) := by omega
              have k2 : (k : Int) < (n : Int) + 1 := by omega
              clear hni hnj hc hc'
              go_wp2
              go_quiet ((go_at_call 12; refine quiet_of2 (equalBytes_same ai aj lk.length ci cj lk _ ?_ ?_ hle); exact hri.drewN _; exact hrj.drewN _))
              go_wp2
              go_roundw
              case rel => exact ⟨k + 1, _, by omega, by go_num, rfl⟩
              case measure => simp [intOf]; omega
          · obtain rfl : k = n := by omega
            obtain ⟨_, _, ai, ni, ci, hc, hri, hni⟩ := hR.after.opened (k := k) (by omega)
            have e1 : (D ++ [(aB.isNone, l)]).getD k noPiece = (aB.isNone, l) := by rw [← hlen]; exact getD_snoc_at _ _ _
            rw [e1] at hri hni
            obtain rfl := hri.len
            have hrb := hR.bref
            have hnb := hR.bnil
            have hbl := hR.below
            obtain rfl := hrb.len
            dsimp only at hri hni
            have hcx : wG.cell? ⟨g, k, none⟩ = some (.slice ai l.length ci) := by simpa using hc
            have ni := fun w => Lib.run_eql_slice_nil (P := Try.prog) w 23 5 ai l.length ci 0 0 Try.underlying23
            have nj := fun w => Lib.run_eql_slice_nil (P := Try.prog) w 23 5 aD l.length cD 0 0 Try.underlying23
            rw [hni] at ni
            rw [hnb] at nj
            generalize aB.isNone = nl at ni nj
            clear e1 hni hnb hR hc hlen
            go_wp2_with fail
            refine (equalBytes_same ai aD l.length ci cD l _ (hri.drewN _) (hrb.drewN _) h2).mono ?_
            rintro e w2 ⟨rfl, q, rfl⟩
            go_wp2
            go_ret
            exact ⟨rfl, below_drewN hbl _⟩

end Go.Proofs.Qxb6612454a
