/-
  THE WALKS strings.HasPrefix, zzBlankOrBreakFirst and zzMarkerLine.
-/
import Derived.Test.Qxb6609232aDoorAt
namespace Go.Proofs.Qxb6609232aDoor
open Go.RowKit

theorem len_eq (s : ByteArray) : s.data.toList.length = s.size := by simp

theorem litePrefix_any (s p : ByteArray) (w : World) :
    Calls Tryd.prog 23 #[.string s, .string p] w fun e w' => e = .returned (.bool (pfx s p)) ∧ w' = w := by
  by_cases hsp : s.size < p.size
  · have e : pfx s p = false := pfx_short s p hsp
    have hsp' : ¬ (s.size : Int) ≥ (p.size : Int) := by omega
    rw [e]
    clear e
    go_enter Tryd.func23, Tryd.ntmps23
    go_wp2
    go_ret
    exact ⟨rfl, rfl⟩
  · have hsp' : (s.size : Int) ≥ (p.size : Int) := by omega
    have hp0 : (0 : Int) ≤ (p.size : Int) := by omega
    have e : pfx s p = ((s.extract 0 p.size).toList == p.toList) := by
      have := Lib.hasPrefix_of_take s.data.toList p.data.toList
      rw [Lib.toList_data, Lib.toList_data, Lib.extract_data, List.drop_zero, Nat.sub_zero]
      unfold pfx
      have h2 : p.data.toList.length = p.size := by simp
      rw [h2] at this
      rw [show p.data.toList.isPrefixOf s.data.toList = Lib.hasPrefix s.data.toList p.data.toList from rfl, ← this]
      simp
      omega
    rw [e]
    clear e
    go_enter Tryd.func23, Tryd.ntmps23
    go_wp2
    go_ret
    exact ⟨rfl, rfl⟩

theorem hasPrefix_any (s p : ByteArray) (w : World) :
    Calls Tryd.prog 20 #[.string s, .string p] w fun e w' => e = .returned (.bool (pfx s p)) ∧ w' = w := by
  go_enter Tryd.func20, Tryd.ntmps20
  go_wp2_with (go_at_call 23; refine (litePrefix_any s p _).mono ?_; rintro e w1 ⟨rfl, rfl⟩)
  go_ret
  exact ⟨rfl, rfl⟩

theorem blk_cons (s : ByteArray) (h : 0 < s.size) : blkAt s.data.toList 0 = ((s[0].toNat : Int) == 32 || (s[0].toNat : Int) == 9 || ((s[0].toNat : Int) == 10 || (s[0].toNat : Int) == 13 || (pfx s ⟨#[194, 133]⟩ || (pfx s ⟨#[226, 128, 168]⟩ || pfx s ⟨#[226, 128, 169]⟩)))) := by
  have e1 : pfx s ⟨#[194, 133]⟩ = (bt s.data.toList 0 == 194 && bt s.data.toList 1 == 133) := pfx2 _
  have e2 : pfx s ⟨#[226, 128, 168]⟩ = (bt s.data.toList 0 == 226 && bt s.data.toList 1 == 128 && bt s.data.toList 2 == 168) := pfx3 _ 168 (by decide)
  have e3 : pfx s ⟨#[226, 128, 169]⟩ = (bt s.data.toList 0 == 226 && bt s.data.toList 1 == 128 && bt s.data.toList 2 == 169) := pfx3 _ 169 (by decide)
  rw [e1, e2, e3]
  have e0 := bt_at s 0 h
  rw [← e0]
  unfold blkAt brkAt
  have hd : decide (s.data.toList.length ≤ 0) = false := by
    rw [decide_eq_false_iff_not, len_eq]
    omega
  rw [hd]
  cases (bt s.data.toList 0 == 32) <;> cases (bt s.data.toList 0 == 9) <;> cases (bt s.data.toList 0 == 10) <;> cases (bt s.data.toList 0 == 13) <;> cases (bt s.data.toList 0 == 194) <;> cases (bt s.data.toList 0 == 226) <;> cases (bt s.data.toList 1 == 133) <;> cases (bt s.data.toList 1 == 128) <;> cases (bt s.data.toList 2 == 168) <;> cases (bt s.data.toList 2 == 169) <;> rfl

theorem blankFirst_any (s : ByteArray) (w : World) (hs : s.size ≤ 1048576) :
    Calls Tryd.prog 18 #[.string s] w fun e w' => e = .returned (.bool (blkAt s.data.toList 0)) ∧ ∃ m, w' = w.drewN m := by
  by_cases h : s.size = 0
  · have e : blkAt s.data.toList 0 = true := by
      unfold blkAt
      rw [decide_eq_true (by rw [len_eq]; omega)]
      rfl
    rw [e]
    clear e
    have h' : (s.size : Int) = 0 := by omega
    go_enter Tryd.func18, Tryd.ntmps18
    go_wp2
    go_ret
    exact ⟨rfl, 0, rfl⟩
  · have h0 : 0 < s.size := by omega
    have h1 : (0 : Int) < (s.size : Int) := by omega
    have h2 : ¬ (s.size : Int) = 0 := by omega
    rw [blk_cons s h0]
    cases g1 : ((s[0].toNat : Int) == 32)
    · cases g2 : ((s[0].toNat : Int) == 9)
      · cases g3 : ((s[0].toNat : Int) == 10)
        · cases g4 : ((s[0].toNat : Int) == 13)
          · go_enter Tryd.func18, Tryd.ntmps18
            cases k1 : pfx s ⟨#[194, 133]⟩
            · cases k2 : pfx s ⟨#[226, 128, 168]⟩
              · go_wp2_with (go_at_call 17; refine (zzHasPrefix_any s _ _ hs).mono ?_; rintro e w1 ⟨rfl, m1, rfl⟩)
                go_ret
                exact ⟨by simp, _, rfl⟩
              · go_wp2_with (go_at_call 17; refine (zzHasPrefix_any s _ _ hs).mono ?_; rintro e w1 ⟨rfl, m1, rfl⟩)
                go_ret
                exact ⟨by simp, _, rfl⟩
            · go_wp2_with (go_at_call 17; refine (zzHasPrefix_any s _ _ hs).mono ?_; rintro e w1 ⟨rfl, m1, rfl⟩)
              go_ret
              exact ⟨by simp, _, rfl⟩
          · go_enter Tryd.func18, Tryd.ntmps18
            go_wp2
            go_ret
            exact ⟨rfl, 0, rfl⟩
        · go_enter Tryd.func18, Tryd.ntmps18
          go_wp2
          go_ret
          exact ⟨rfl, 0, rfl⟩
      · go_enter Tryd.func18, Tryd.ntmps18
        go_wp2
        go_ret
        exact ⟨rfl, 0, rfl⟩
    · go_enter Tryd.func18, Tryd.ntmps18
      go_wp2
      go_ret
      exact ⟨rfl, 0, rfl⟩

theorem marker_any (r p : ByteArray) (w : World) (hr : r.size ≤ 1048576) (_hp : p.size ≤ 1048576) :
    Calls Tryd.prog 10 #[.string r, .string p] w fun e w' => e = .returned (.bool (pfx r p && blkAt r.data.toList p.size)) ∧ ∃ m, w' = w.drewN m := by
  cases k1 : pfx r p
  · go_enter Tryd.func10, Tryd.ntmps10
    go_wp2_with (go_at_call 17; refine (zzHasPrefix_any r _ _ hr).mono ?_; rintro e w1 ⟨rfl, m1, rfl⟩)
    go_ret
    exact ⟨by simp, _, rfl⟩
  · have hle : p.size ≤ r.size := by
      by_cases h : r.size < p.size
      · rw [pfx, pfx_short r p h] at k1
        exact absurd k1 (by decide)
      · omega
    have p0 : (0 : Int) ≤ (p.size : Int) := by omega
    have p1 : (p.size : Int) ≤ (r.size : Int) := by omega
    have hx : (r.extract p.size r.size).size ≤ 1048576 := by rw [ByteArray.size_extract]; omega
    have hb := blankFirst_any (r.extract p.size r.size)
    rw [Lib.extract_to_end, blk_drop, Nat.add_zero] at hb
    go_enter Tryd.func10, Tryd.ntmps10
    go_wp2_with (first | (go_at_call 17; refine (zzHasPrefix_any r _ _ hr).mono ?_; rintro e w1 ⟨rfl, m1, rfl⟩) | (go_at_call 18; refine (hb _ hx).mono ?_; rintro e w1 ⟨rfl, m2, rfl⟩))
    go_ret
    exact ⟨by simp, _, rfl⟩

end Go.Proofs.Qxb6609232aDoor
