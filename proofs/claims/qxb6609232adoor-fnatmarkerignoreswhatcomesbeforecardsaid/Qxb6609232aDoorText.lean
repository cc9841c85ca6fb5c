/-
  THE WALKS over strings alone: zzHasPrefix, strings.HasPrefix, zzBlankOrBreakFirst, zzMarkerLine, isBlank, breakLength.
-/
import Derived.Test.Qxb6609232aDoorProg
import Derived.Test.Qxb6609232aDoorPlain
import Derived.WalkKit
import Derived.WalkSpells
import Derived.WalkLawsBesides
import Derived.Deep.QuietTactic
import Derived.BigQuiet
namespace Go.Proofs.Qxb6609232aDoor
open Go.RowKit

theorem take_snoc (s : ByteArray) (k : Nat) (h : k < s.size) : s.data.toList.take (k + 1) = s.data.toList.take k ++ [s[k]] := by
  rw [List.take_succ_eq_append_getElem (by simpa using h)]
  rfl

theorem pfx_false (s p : ByteArray) (k : Nat) (hs : k < s.size) (hp : k < p.size) (h : ¬ s[k] = p[k]) : p.data.toList.isPrefixOf s.data.toList = false := by
  rw [Bool.eq_false_iff]
  intro hh
  rw [List.isPrefixOf_iff_prefix] at hh
  obtain ⟨t, ht⟩ := hh
  have h1 : s.data.toList[k]? = some s[k] := by rw [List.getElem?_eq_getElem (by simpa using hs)]; rfl
  have h2 : p.data.toList[k]? = some p[k] := by rw [List.getElem?_eq_getElem (by simpa using hp)]; rfl
  rw [← ht, List.getElem?_append_left (by simpa using hp), h2] at h1
  exact h (Option.some.inj h1).symm

theorem pfx_true (s p : ByteArray) (h : s.data.toList.take p.size = p.data.toList.take p.size) : p.data.toList.isPrefixOf s.data.toList = true := by
  rw [List.isPrefixOf_iff_prefix]
  have e : p.data.toList.take p.size = p.data.toList := List.take_of_length_le (by simp)
  rw [e] at h
  exact h ▸ List.take_prefix _ _

theorem pfx_short (s p : ByteArray) (h : s.size < p.size) : p.data.toList.isPrefixOf s.data.toList = false := by
  rw [Bool.eq_false_iff]
  intro hh
  rw [List.isPrefixOf_iff_prefix] at hh
  have := hh.length_le
  simp at this
  omega

/-- Whether p begins s. -/
def pfx (s p : ByteArray) : Bool := p.data.toList.isPrefixOf s.data.toList

theorem ne_byte (a b : UInt8) : ((a.toNat : Int) != (b.toNat : Int)) = !(a == b) := by
  by_cases h : a = b
  · subst h; simp
  · have h' : ¬ (a.toNat : Int) = (b.toNat : Int) := fun hh => h (UInt8.toNat_inj.1 (by omega))
    rw [bne_iff_ne.2 h', beq_eq_false_iff_ne.2 h]
    rfl

set_option maxHeartbeats 400000 in
theorem zzHasPrefix_any (s p : ByteArray) (w : World) (hs : s.size ≤ 1048576) :
    Calls Tryd.prog 17 #[.string s, .string p] w fun e w' => e = .returned (.bool (pfx s p)) ∧ ∃ m, w' = w.drewN m := by
  by_cases hsp : s.size < p.size
  · have e : pfx s p = false := pfx_short s p hsp
    have hsp' : (s.size : Int) < (p.size : Int) := by omega
    rw [e]
    clear e
    go_enter Tryd.func17, Tryd.ntmps17
    go_wp2
    go_ret
    exact ⟨rfl, 0, rfl⟩
  · have hsp' : ¬ (s.size : Int) < (p.size : Int) := by omega
    go_enter Tryd.func17, Tryd.ntmps17
    go_wp2
    go_loopw [5] (fun i wr => ∃ k m : Nat, k ≤ p.size ∧ i = .int .i64 k ∧ wr = w.drewN m ∧ s.data.toList.take k = p.data.toList.take k) (fun i _ => p.size - (intOf i).toNat)
    case atStart => exact ⟨0, 0, Nat.zero_le _, rfl, rfl, rfl⟩
    case round =>
      obtain ⟨k, m, hk, rfl, rfl, htk⟩ := hrel
      have HT : Hid (s.data.toList.take k = p.data.toList.take k) := htk
      clear htk
      by_cases hlt : k < p.size
      · have hls : k < s.size := by omega
        have k0 : (0 : Int) ≤ (k : Int) := by omega
        have k1 : (k : Int) < (p.size : Int) := by omega
        have k2 : (k : Int) < (s.size : Int) := by omega
        by_cases heq : s[k] = p[k]
        · have hb : ((s[k].toNat : Int) != (p[k].toNat : Int)) = false := by rw [ne_byte, heq]; simp
          have HT' : Hid (s.data.toList.take (k + 1) = p.data.toList.take (k + 1)) := by
            show s.data.toList.take (k + 1) = p.data.toList.take (k + 1)
            rw [take_snoc s k hls, take_snoc p k hlt, HT.out, heq]
          clear heq HT
          go_wp2
          go_quiet (fail)
          go_wp2
          go_roundw
          case rel => exact ⟨k + 1, _, by omega, by go_num, rfl, HT'⟩
          case measure => simp [intOf]; omega
        · have hb : ((s[k].toNat : Int) != (p[k].toNat : Int)) = true := by rw [ne_byte]; simp [heq]
          have e : Hid (pfx s p = false) := pfx_false s p k hls hlt heq
          clear heq HT
          go_wp2
          go_quiet (fail)
          go_wp2
          go_ret
          exact ⟨by rw [e.out]; rfl, _, World.drewN_drewN _ _ _⟩
      · obtain rfl : k = p.size := by omega
        have e : Hid (pfx s p = true) := pfx_true s p HT
        clear HT
        go_wp2
        go_ret
        exact ⟨by rw [e.out]; rfl, _, rfl⟩

end Go.Proofs.Qxb6609232aDoor
