/-
  LAW 2, THE WALK: FnMemorySpillWritesHoldLineInOrder returns true, whatever it is handed.
-/
import Derived.Test.Qxb6612454aBytes
import Derived.Test.Qxb6612454aLawAParts
import Derived.Test.Qxb6612454aFlat
namespace Go.Proofs.Qxb6612454a
open Go.RowKit

/-- The store behind k writes: it holds the first k pieces; nothing that was there ahead of it has turned. -/
structure Spilled (wB wr : World) (D : List Piece) (k : Nat) (ab : Option Addr) (cb : Nat) (us : List Value) : Prop where
  below : Below wB.heap.size wB wr
  spill : wr.heap[wB.heap.size]? = some (.cells #[.slice ab k cb] 38 (0, 0))
  holds : HoldsB wr wB.heap.size (.slice ab k cb) us (D.take k)

theorem Spilled.start (wB : World) (D : List Piece) : Spilled wB (wB.alloc (.cells #[.slice none 0 0] 38)) D 0 none 0 [] :=
  ⟨(Below.refl _ _).alloc (Nat.le_refl _) _, heap_alloc_new wB _, rfl, World.ownsRow_nil _ _ _ _, fun _ hi => absurd hi (Nat.not_lt_zero _)⟩

theorem Spilled.write {wB wr w' : World} {D : List Piece} {k : Nat} {ab : Option Addr} {cb : Nat} {us : List Value} {v' u : Value} (h : Spilled wB wr D k ab cb us) (hk : k < D.length)
    (hW : Wrote wr w' wB.heap.size wB.heap.size k (.slice ab k cb) us (D.getD k noPiece) v' u) : ∃ ab' cb', v' = .slice ab' (k + 1) cb' ∧ Spilled wB w' D (k + 1) ab' cb' (us ++ [u]) := by
  obtain ⟨ab', cb', rfl⟩ := own_form hW.own
  have hl : (D.take k).length = k := by simp; omega
  have hl1 : (D.take (k + 1)).length = k + 1 := by simp; omega
  have hown := h.holds.own
  rw [hl] at hown
  have hu : us.length = k := by rw [h.holds.len, hl]
  refine ⟨ab', cb', rfl, h.below.trans (hW.below h.below.size (Nat.le_refl _) (fun j e => (hown.lt j e).1)), hW.spill, by rw [hl1]; simp [hu], by rw [hl1]; exact hW.own, fun i hi => ?_⟩
  rw [hl1] at hi
  have e0 : (D.take (k + 1)).getD i noPiece = D.getD i noPiece := by simp [List.getD, hi]
  rw [e0]
  by_cases hik : i < k
  · rw [getD_snoc_lt _ _ _ _ (by omega)]
    have hh := h.holds.each i (by omega)
    have e1 : (D.take k).getD i noPiece = D.getD i noPiece := by simp [List.getD, hik]
    rw [e1] at hh
    refine hh.same fun j hj => ?_
    have hap := own_apart hh.own hown
    have hno := own_not hh.own h.spill (by decide)
    rw [hj] at hap hno
    exact hW.block j (hh.own.lt j hj).2 (by simpa using hno) (by simpa using hap)
  · obtain rfl : i = k := by omega
    have e1 : (us ++ [u]).getD i .nilIface = u := by rw [← hu]; exact getD_snoc_at _ _ _
    rw [e1]
    exact hW.holds.base h.below.size

theorem ReadsB.drewN {w : World} {ao : Option Addr} {n cap : Nat} {D : List Piece} (h : ReadsB w ao n cap D) (m : Nat) : ReadsB (w.drewN m) ao n cap D :=
  ⟨h.len, h.nilCase, fun a ha i hi => by
    obtain ⟨ai, ni, ci, hc, hr, hn⟩ := h.cell a ha i hi
    exact ⟨ai, ni, ci, hc, hr.drewN m, hn⟩⟩

set_option maxHeartbeats 1600000 in
theorem lawB_walk (ao : Option Addr) (n cap : Nat) (D : List Piece) (w : World) (hr : ReadsB w ao n cap D) :
    Calls Try.prog 4 #[.slice ao n cap] w fun e w' => e = .returned (.bool true) ∧ Below w.heap.size w w' := by
  have hlen := hr.len
  go_enter Try.func4, Try.ntmps4
  go_wp2_with fail
  refine (bytes13_any ao n cap D _ hr).mono ?_
  rintro e w1 ⟨r, rfl, rfl⟩
  cases r with
  | false =>
    go_wp2_with fail
    go_ret
    exact ⟨rfl, Below.refl _ _⟩
  | true =>
    rcases Nat.lt_or_ge 4096 n with h1 | h1
    · have h1' : (4096 : Int) < (n : Int) := by omega
      go_wp2_with fail
      go_ret
      exact ⟨rfl, Below.refl _ _⟩
    have h1' : ¬ (4096 : Int) < (n : Int) := by omega
    go_wp2_with fail
    refine (blocksOver_any ao n cap D 0 _ hr h1 (Nat.zero_le _)).mono ?_
    rintro e w1 ⟨r, rfl, rfl, hsum⟩
    cases r with
    | true =>
      go_wp2_with fail
      go_ret
      exact ⟨rfl, Below.refl _ _⟩
    | false =>
      have hsum := hsum rfl
      have htot : total D n ≤ 1048576 := by omega
      have hl : ∀ i, i < n → (D.getD i noPiece).2.length ≤ 1048576 := fun i hi => by
        have := total_each D i (by omega)
        rw [hlen] at this
        omega
      clear hsum h1'
      go_wp2_with fail
      refine (cloneBlocks_any ao n cap D _ hr (by omega) hl).mono ?_
      rintro e wA ⟨aA, cA, usA, rfl, hA⟩
      have HA : ReadsB wA aA n cA D := by
        obtain ⟨a1, c1, he, hh⟩ := hA.holds.reads
        rw [hlen] at he hh
        simp at he
        obtain ⟨rfl, rfl⟩ := he
        exact hh
      go_wp2_with fail
      refine (cloneBlocks_any aA n cA D _ HA (by omega) hl).mono ?_
      rintro e wB ⟨aC, cC, usC, rfl, hC⟩
      have HC : ReadsB wB aC n cC D := by
        obtain ⟨a1, c1, he, hh⟩ := hC.holds.reads
        rw [hlen] at he hh
        simp at he
        obtain ⟨rfl, rfl⟩ := he
        exact hh
      have HAB := HA.below hC.below (Nat.le_refl _)
      have hbel : Below w.heap.size w wB := hA.below.trans (hC.below.mono hA.below.size)
      clear hA hC HA hr
      go_wp2_with fail
      refine (new_any none 0 0 _).mono ?_
      rintro e wE ⟨rfl, rfl⟩
      have S0 := Spilled.start wB D
      generalize wB.alloc (.cells #[.slice none 0 0] 38) = wE at S0 ⊢
      go_wp2_with fail
      go_loopw [5, 6] (fun h i wr => ∃ (k : Nat) (ab : Option Addr) (cb : Nat) (us : List Value), k ≤ n ∧ i = .int .i64 k ∧ h = .int .i64 (total D k) ∧ Spilled wB wr D k ab cb us) (fun _ i _ => n - (intOf i).toNat)
      case atStart => exact ⟨0, none, 0, [], Nat.zero_le _, rfl, rfl, S0⟩
      case round =>
        clear S0
        obtain ⟨k, ab, cb, us, hk, rfl, rfl, hS⟩ := hrel
        rcases Nat.lt_or_ge k n with hlt | hge
        · cases aA with
          | none => have := (HAB.nilCase rfl).1; omega
          | some a =>
            obtain ⟨b, off, sp⟩ := a
            obtain ⟨rfl, hblk, ai, ni, ci, hc, hri, hni⟩ := HAB.opened hlt
            have hcx : wr.cell? ⟨b, off + k, none⟩ = some (.slice ai ni ci) := (hS.below.cell (by exact hblk)).trans hc
            have hrx := hri.below hS.below (Nat.le_refl _)
            have hle := hl k hlt
            have hsu := total_succ D k (by omega)
            have hmo := total_mono D (k + 1) n (by omega)
            rw [hri.len] at hsu hle
            have HS : Hid (total D (k + 1) = total D k + ni) := hsu
            rw [hsu] at hmo
            have hown := hS.holds.own
            have htk : (D.take k).length = k := by simp; omega
            rw [htk] at hown
            have hsz := hS.below.size
            have hsp := hS.spill
            clear hsu
            go_wp2_with fail
            refine (zzwrite_any wB.heap.size wB.heap.size ab k cb us ai ni ci (D.getD k noPiece).2 (total D k) _ hsp hown hsz hrx hle (by omega)).mono ?_
            rintro e w2 ⟨v', u, rfl, hW⟩
            rw [hni] at hW
            obtain ⟨ab', cb', rfl, hS'⟩ := hS.write (by omega) hW
            have hcy : w2.cell? ⟨b, off + k, none⟩ = some (.slice ai ni ci) := (hS'.below.cell (by exact hblk)).trans hc
            clear hS hW hown hrx hcx hsp
            go_wp2_with fail
            go_roundw
            case rel => exact ⟨k + 1, ab', cb', _, by omega, by go_num, by rw [HS.out]; go_num, hS'⟩
            case measure => simp [intOf]; omega
        · obtain rfl : k = n := by omega
          have HCr : ReadsB wr aC k cC D := HC.below hS.below (Nat.le_refl _)
          have Haf : ReadsB wr ab k cb D := by
            have hh := hS.holds
            rw [← hlen, List.take_length] at hh
            obtain ⟨a1, c1, he, hq⟩ := hh.reads
            rw [hlen] at he hq
            simp at he
            obtain ⟨rfl, rfl⟩ := he
            exact hq
          have hcS := cell_of_one hS.spill
          have hbr : Below w.heap.size w wr := hbel.trans (hS.below.mono hbel.size)
          have hnk : ((k : Int) != (k : Int)) = false := by simp
          clear hS HC HAB hbel
          obtain ⟨wG, rfl⟩ : ∃ wG : World, wG = wr := ⟨_, rfl⟩
          go_wp2_with fail
          refine (blocks_any wB.heap.size _ _ _ _ hcS).mono ?_
          rintro e wH ⟨rfl, rfl⟩
          clear hcS
          go_wp2_with fail
          go_loopw [8] (fun i wr => ∃ j m : Nat, j ≤ k ∧ i = .int .i64 j ∧ wr = wG.drewN m) (fun i _ => k - (intOf i).toNat)
          case atStart => exact ⟨0, 0, Nat.zero_le _, rfl, rfl⟩
          case round =>
            obtain ⟨j, m, hj, rfl, rfl⟩ := hrel
            rcases Nat.lt_or_ge j k with hlt | hge2
            · cases ab with
              | none => have := (Haf.nilCase rfl).1; omega
              | some a =>
                cases aC with
                | none => have := (HCr.nilCase rfl).1; omega
                | some a' =>
                  obtain ⟨b, off, sp⟩ := a
                  obtain ⟨b', off', sp'⟩ := a'
                  obtain ⟨rfl, _, ai, ni, ci, hc, hri, _⟩ := Haf.opened hlt
                  obtain ⟨rfl, _, aj, nj, cj, hc', hrj, _⟩ := HCr.opened hlt
                  obtain rfl : ni = nj := hri.len.symm.trans hrj.len
                  have j0 : (0 : Int) ≤ (j : Int) := by omega
                  have j1 : (j : Int) < (k : Int) := by omega
                  have hnn : ((ni : Int) != (ni : Int)) = false := by simp
                  clear hri hrj Haf HCr
                  go_wp2
                  go_quiet (fail)
                  go_wp2
                  go_roundw
                  case rel => exact ⟨j + 1, _, by omega, by go_num, rfl⟩
                  case measure => simp [intOf]; omega
            · obtain rfl : j = k := by omega
              go_wp2_with fail
              refine (flatten_any ab j cb D _ (Haf.drewN m) h1 htot).mono ?_
              rintro e w3 ⟨a3, c3, rfl, hF3⟩
              have heq : ((total D j : Int) == (total D j : Int)) = true := by simp
              have HC3 := (HCr.drewN m).below hF3.below (Nat.le_refl _)
              go_wp2_with fail
              refine (flatten_any aC j cC D _ HC3 h1 htot).mono ?_
              rintro e w4 ⟨a4, c4, rfl, hF4⟩
              have hfl : (flat D).length = total D j := by rw [flat_length, hlen]
              have R3 : Reads w4 a3 (total D j) c3 (flat D) := by
                obtain ⟨a1, c1, he, hq⟩ := reads_of_own (own_below hF3.own hF4.below)
                rw [hfl] at he hq
                simp at he
                obtain ⟨rfl, rfl⟩ := he
                exact hq
              have R4 : Reads w4 a4 (total D j) c4 (flat D) := by
                obtain ⟨a1, c1, he, hq⟩ := reads_of_own hF4.own
                rw [hfl] at he hq
                simp at he
                obtain ⟨rfl, rfl⟩ := he
                exact hq
              have hb4 : Below w.heap.size w w4 := ((below_drewN hbr m).trans (hF3.below.mono hbr.size)).trans (hF4.below.mono (Nat.le_trans hbr.size hF3.below.size))
              clear hF3 hF4 HC3 HCr Haf
              go_wp2_with fail
              refine (equalBytes_same a3 a4 (total D j) c3 c4 (flat D) _ R3 R4 htot).mono ?_
              rintro e w5 ⟨rfl, q, rfl⟩
              go_wp2
              go_ret
              exact ⟨rfl, below_drewN hb4 _⟩

end Go.Proofs.Qxb6612454a
