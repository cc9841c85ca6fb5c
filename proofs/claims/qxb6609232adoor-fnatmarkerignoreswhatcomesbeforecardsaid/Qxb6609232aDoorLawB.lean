/-
  THE WALK OF FnAtMarkerIgnoresWhatComesBefore.
-/
import Derived.Test.Qxb6609232aDoorLawA
import Derived.Laws.Concat
namespace Go.Proofs.Qxb6609232aDoor
open Go.RowKit

set_option maxHeartbeats 800000 in
theorem bytes11_any (r s p : ByteArray) (x y : Int) (w : World) :
    Calls Tryd.prog 11 #[.string r, .string s, .int .i64 x, .int .i64 y, .string p] w fun e w' => SomeBool w e w' := by
  by_cases h0 : r.size ≤ 1048576
  · have h0' : ¬ (1048576 : Int) < (r.size : Int) := by omega
    by_cases h1 : s.size ≤ 1048576
    · have h1' : ¬ (1048576 : Int) < (s.size : Int) := by omega
      by_cases h2 : r.size + s.size ≤ 1048576
      · have h2' : ¬ (1048576 : Int) < (r.size : Int) + (s.size : Int) := by omega
        by_cases h3 : p.size ≤ 1048576
        · have h3' : ¬ (1048576 : Int) < (p.size : Int) := by omega
          by_cases h4 : r.size + s.size + p.size ≤ 1048576
          · have h4' : ¬ (1048576 : Int) < (r.size : Int) + (s.size : Int) + (p.size : Int) := by omega
            go_enter Tryd.func11, Tryd.ntmps11
            go_wp2
            go_ret
            exact ⟨true, rfl, rfl⟩
          · have h4' : (1048576 : Int) < (r.size : Int) + (s.size : Int) + (p.size : Int) := by omega
            go_enter Tryd.func11, Tryd.ntmps11
            go_wp2
            go_ret
            exact ⟨false, rfl, rfl⟩
        · have h3' : (1048576 : Int) < (p.size : Int) := by omega
          go_enter Tryd.func11, Tryd.ntmps11
          go_wp2
          go_ret
          exact ⟨false, rfl, rfl⟩
      · have h2' : (1048576 : Int) < (r.size : Int) + (s.size : Int) := by omega
        go_enter Tryd.func11, Tryd.ntmps11
        go_wp2
        go_ret
        exact ⟨false, rfl, rfl⟩
    · have h1' : (1048576 : Int) < (s.size : Int) := by omega
      go_enter Tryd.func11, Tryd.ntmps11
      go_wp2
      go_ret
      exact ⟨false, rfl, rfl⟩
  · have h0' : (1048576 : Int) < (r.size : Int) := by omega
    go_enter Tryd.func11, Tryd.ntmps11
    go_wp2
    go_ret
    exact ⟨false, rfl, rfl⟩

theorem app_list (r s : ByteArray) : (r ++ s).data.toList = r.data.toList ++ s.data.toList := by simp

theorem drop_app (r s : ByteArray) (k : Nat) : (r ++ s).data.toList.drop (k + r.size) = s.data.toList.drop k := by
  rw [app_list, List.drop_append, List.drop_eq_nil_of_le (by rw [len_eq]; omega), List.nil_append, len_eq]
  congr 1
  omega

/-- What atMarker answers does not change with what comes before. -/
theorem mk_shift (r s p : ByteArray) (k : Nat) : mk (r ++ s) p (k + r.size) ((k + r.size : Nat) : Int) = mk s p k k := by
  unfold mk
  rw [decide_eq_true rfl, decide_eq_true rfl]
  have e1 : pfx ((r ++ s).extract (k + r.size) (r ++ s).size) p = pfx (s.extract k s.size) p := by
    unfold pfx
    rw [Lib.extract_to_end, Lib.extract_to_end, drop_app]
  rw [e1, ← blk_drop, drop_app, blk_drop]

theorem mk_off (s p : ByteArray) (k : Nat) (y : Int) (h : ¬ (k : Int) = y) : mk s p k y = false := by
  unfold mk
  rw [decide_eq_false h]
  rfl

theorem shift_iff (k : Nat) (y : Int) (n : Nat) (hy0 : -9223372036854775808 ≤ y) (hy1 : y ≤ 9223372036854775807) (hk : k ≤ 1048576) (hn : n ≤ 1048576) : (((k + n : Nat) : Int) = wrap64 (y + (n : Int))) ↔ ((k : Int) = y) := by
  unfold wrap64
  omega

set_option maxHeartbeats 1600000 in
theorem lawB_walk (r s p : ByteArray) (x y : Int) (w : World) (hy0 : -9223372036854775808 ≤ y) (hy1 : y ≤ 9223372036854775807) (hT : ∀ c : Nat, c < 256 → w.cell? ⟨0, c, none⟩ = some (.bool (tab c))) :
    Calls Tryd.prog 4 #[.string r, .string s, .int .i64 x, .int .i64 y, .string p] w fun e w' => e = .returned (.bool true) ∧ Below w.heap.size w w' := by
  have hw0 : 0 < w.heap.size := World.block_lt_of_cell? w _ (hT 0 (by decide))
  have HT : Hid (∀ c : Nat, c < 256 → w.cell? ⟨0, c, none⟩ = some (.bool (tab c))) := hT
  clear hT
  go_enter Tryd.func4, Tryd.ntmps4
  go_wp2_with fail
  refine (bytes11_any r s p x y _).mono ?_
  rintro e w1 ⟨b, rfl, rfl⟩
  cases b with
  | false =>
    go_wp2_with fail
    go_ret
    exact ⟨rfl, Below.refl _ _⟩
  | true =>
    by_cases h0 : 1048576 < r.size
    · have h0' : (1048576 : Int) < (r.size : Int) := by omega
      go_wp2_with fail
      go_ret
      exact ⟨rfl, Below.refl _ _⟩
    have h0' : ¬ (1048576 : Int) < (r.size : Int) := by omega
    by_cases h1 : 1048576 < s.size
    · have h1' : (1048576 : Int) < (s.size : Int) := by omega
      go_wp2_with fail
      go_ret
      exact ⟨rfl, Below.refl _ _⟩
    have h1' : ¬ (1048576 : Int) < (s.size : Int) := by omega
    by_cases h2 : 1048576 < p.size
    · have h2' : (1048576 : Int) < (p.size : Int) := by omega
      go_wp2_with fail
      go_ret
      exact ⟨rfl, Below.refl _ _⟩
    have h2' : ¬ (1048576 : Int) < (p.size : Int) := by omega
    by_cases h4 : 1048576 < r.size + s.size + p.size
    · have h4' : (1048576 : Int) < (r.size : Int) + (s.size : Int) + (p.size : Int) := by omega
      go_wp2_with fail
      go_ret
      exact ⟨rfl, Below.refl _ _⟩
    have h4' : ¬ (1048576 : Int) < (r.size : Int) + (s.size : Int) + (p.size : Int) := by omega
    by_cases h3 : p.size = 3
    · have hsum : r.size + s.size ≤ 1048573 := by omega
      have h3b : ((p.size : Int) != 3) = false := by
        rw [h3]
        rfl
      have H3 : Hid (p.size = 3) := h3
      clear h3
      by_cases hx : x < 0
      · go_wp2_with fail
        go_ret
        exact ⟨rfl, Below.refl _ _⟩
      by_cases hx2 : (s.size : Int) < x
      · go_wp2_with fail
        go_ret
        exact ⟨rfl, Below.refl _ _⟩
      obtain ⟨k, rfl⟩ := Int.eq_ofNat_of_zero_le (show 0 ≤ x by omega)
      have hk : k ≤ s.size := by omega
      have hs : s.size ≤ 1048576 := by omega
      have hsz : (r ++ s).size = r.size + s.size := by simp
      have hadd : ∀ w, (Op.stringOp .add r s).run Tryd.prog w = .ok (.string (r ++ s)) w := fun w => run_string_add_sum w r s (by omega)
      go_wp2_with fail
      refine (new_any s k y _).mono ?_
      rintro e wN ⟨rfl, hN⟩
      have hbel1 := hN.below
      have hsz1 := hN.size
      have N0 : Hid (wN.cell? ⟨w.heap.size, 0, none⟩ = some (.string s) ∧ wN.cell? ⟨w.heap.size, 2, none⟩ = some (.int .i64 k) ∧ wN.cell? ⟨w.heap.size, 4, none⟩ = some (.int .i64 y)) := ⟨hN.c0, hN.c2, hN.c4⟩
      clear hN
      go_wp2_with fail
      generalize hzz : wrap64 (y + (r.size : Int)) = z
      have hz : (((k + r.size : Nat) : Int) = z) ↔ ((k : Int) = y) := by
        rw [← hzz]
        exact shift_iff k y r.size hy0 hy1 (by omega) (by omega)
      clear hzz
      refine (new_any (r ++ s) _ z _).mono ?_
      rintro e wM ⟨rfl, hM⟩
      have hT' : ∀ c : Nat, c < 256 → wM.cell? ⟨0, c, none⟩ = some (.bool (tab c)) := fun c hc => ((hM.below.cell (by show 0 < _; omega)).trans (hbel1.cell (by exact hw0))).trans (HT.out c hc)
      have HA := zzAt_any w.heap.size s p k y wM hs hk hT' ((hM.below.cell (by exact hsz1)).trans N0.out.1) ((hM.below.cell (by exact hsz1)).trans N0.out.2.1) ((hM.below.cell (by exact hsz1)).trans N0.out.2.2)
      have HB : ∀ m, Calls Tryd.prog 9 #[.pointer (some ⟨wN.heap.size, 0, none⟩), .string p] (wM.drewN m) fun e w' => e = .returned (.bool (mk (r ++ s) p (k + r.size) z)) ∧ ∃ m', w' = (wM.drewN m).drewN m' := fun m =>
        zzAt_any wN.heap.size (r ++ s) p (k + r.size) z (wM.drewN m) (by omega) (by omega) (fun c hc => by simpa using hT' c hc) (by simpa using hM.c0) (by simpa using hM.c2) (by simpa using hM.c4)
      have X : Hid (Below w.heap.size w wM) := hbel1.trans (hM.below.mono (by omega))
      clear hM hT' HT N0 hbel1 hsz1
      go_wp2_with fail
      refine HA.mono ?_
      rintro e w2 ⟨rfl, m, rfl⟩
      clear HA
      go_wp2_with fail
      refine (HB m).mono ?_
      rintro e w3 ⟨rfl, m', rfl⟩
      clear HB
      by_cases hd : (k : Int) = y
      · have hd2 := hz.2 hd
        subst hd
        subst hd2
        rw [mk_shift]
        have HR := rest_any s p k
        have h3 := H3.out
        clear hz
        generalize mk s p k k = v at HR ⊢
        cases v with
        | false =>
          go_wp2_with (go_at_call 10; refine (HR _ hs h3).mono ?_; rintro e w3 ⟨rfl, m3, rfl⟩)
          go_ret
          exact ⟨rfl, below_drewN X.out _⟩
        | true =>
          go_wp2_with (go_at_call 10; refine (HR _ hs h3).mono ?_; rintro e w3 ⟨rfl, m3, rfl⟩)
          go_ret
          exact ⟨rfl, below_drewN X.out _⟩
      · have hd2 : ¬ ((k + r.size : Nat) : Int) = z := fun h => hd (hz.1 h)
        rw [mk_off _ _ _ _ hd, mk_off _ _ _ _ hd2]
        clear hz hd2
        go_wp2_with fail
        go_ret
        exact ⟨rfl, below_drewN X.out _⟩
    · have h3' : ¬ (p.size : Int) = 3 := by omega
      go_wp2_with fail
      go_ret
      exact ⟨rfl, Below.refl _ _⟩

end Go.Proofs.Qxb6609232aDoor
