/-
  'Rows.FnConnectivityGroupIDTypeIsOneDistinctNameSaid', PROVED: the walk, and the row's step round it (the given shell's).
-/
import Derived.Test.Qxb6609239aRows
import Derived.Test.Qxb6609239aNames
import Derived.WalkKit
import Derived.ProofKit
import Derived.OpenShut
import Derived.ShutString
namespace Go.Proofs.Qxb6609239a
open Go.ChangeShapes Go.WideShapes Go.ChangeAt Go.RowKit
open Go.ChangeMaps (open_string shut_string)

theorem own : ownKnob Try.prog.godebug = none := by kernel_rfl

/-! ### STEP 1: THE WALK: the Go text returns true. 'Grown w w'': the world has at most new blocks (Derived/RowKit3.lean). Part the cases AHEAD of 'go_enter' where a test parts the walk; take each callee by a contract of your own. -/
def SomeBool (w : World) (e : Ending) (w' : World) : Prop := ∃ r, e = .returned (.bool r) ∧ w = w'

theorem bytes7_any (s p : ByteArray) (w : World) : Calls Try.prog 7 #[.string s, .string p] w fun e w' => SomeBool w e w' := by
  by_cases h1 : s.size ≤ 1048576
  · have h1' : ¬ (1048576 : Int) < (s.size : Int) := by omega
    by_cases h2 : p.size ≤ 1048576
    · have h2' : ¬ (1048576 : Int) < (p.size : Int) := by omega
      by_cases h3 : s.size + p.size ≤ 1048576
      · have h3' : ¬ (1048576 : Int) < (s.size : Int) + (p.size : Int) := by omega
        go_enter Try.func7, Try.ntmps7
        go_wp2
        go_ret
        exact ⟨true, rfl, rfl⟩
      · have h3' : (1048576 : Int) < (s.size : Int) + (p.size : Int) := by omega
        go_enter Try.func7, Try.ntmps7
        go_wp2
        go_ret
        exact ⟨false, rfl, rfl⟩
    · have h2' : (1048576 : Int) < (p.size : Int) := by omega
      go_enter Try.func7, Try.ntmps7
      go_wp2
      go_ret
      exact ⟨false, rfl, rfl⟩
  · have h1' : (1048576 : Int) < (s.size : Int) := by omega
    go_enter Try.func7, Try.ntmps7
    go_wp2
    go_ret
    exact ⟨false, rfl, rfl⟩

theorem walk (a0 : ByteArray) (a1 : ByteArray) (w : World) :
    Calls Try.prog 3 #[.string a0, .string a1] w fun e w' => e = .returned (.bool true) ∧ Grown w w' := by
  go_enter Try.func3, Try.ntmps3
  go_wp2_with fail
  refine (bytes7_any a0 a1 _).mono ?_
  rintro e w1 ⟨b, rfl, rfl⟩
  cases b with
  | false =>
    go_wp2_with fail
    go_ret
    exact ⟨rfl, Grown.refl _⟩
  | true =>
    by_cases h1 : 65536 < a0.size
    · have h1' : (65536 : Int) < (a0.size : Int) := by omega
      go_wp2_with fail
      go_ret
      exact ⟨rfl, Grown.refl _⟩
    have h1' : ¬ (65536 : Int) < (a0.size : Int) := by omega
    by_cases h2 : 65536 < a1.size
    · have h2' : (65536 : Int) < (a1.size : Int) := by omega
      go_wp2_with fail
      go_ret
      exact ⟨rfl, Grown.refl _⟩
    have h2' : ¬ (65536 : Int) < (a1.size : Int) := by omega
    go_wp2_with fail
    refine (typeG_any a0 _).mono ?_
    rintro e w2 ⟨rfl, rfl⟩
    go_wp2_with fail
    refine (typeG_any a1 _).mono ?_
    rintro e w3 ⟨rfl, rfl⟩
    have hO := other_any nmG w3 (Or.inl rfl)
    unfold nmG at hO ⊢
    go_wp2_with fail
    refine hO.mono ?_
    rintro e w4 ⟨rfl, hg⟩
    have X : Hid (Grown w3 w4) := hg
    clear hg
    go_wp2_with fail
    refine (typeR_any _ _).mono ?_
    rintro e w5 ⟨rfl, rfl⟩
    unfold nmR
    go_wp2
    go_ret
    exact ⟨rfl, X.out.alloc _ _⟩

/-! ### THE ROW's STEP: WRITTEN OUT: LEAVE IT -/
set_option maxRecDepth 100000 in
theorem lifted (os : Os) (started : os.Started) (H : Type) (enc : TypeId × Value → H) :
    ReturnsInHanded {} Try.checked os 3 .any (Rows.fnConnectivityGroupIDTypeIsOneDistinctNameSpec.pre6 enc Try.prog Try.f3 Rows.fnConnectivityGroupIDTypeIsOneDistinctNameRow.domain false) (Rows.fnConnectivityGroupIDTypeIsOneDistinctNameSpec.post enc Try.prog Try.f3 false true false false) := by
  refine returnsInHanded_of_change (C := Try.checked) own started (by kernel_rfl) Try.func3
    (ChangeSpec.witness6 (enc := enc) (C := Try.checked) false ⟨#[], #[.string ByteArray.empty, .string ByteArray.empty], []⟩ 8 (by kernel_rfl) (by kernel_rfl) (by kernel_rfl) (by kernel_rfl)) ?_
  intro W base args ds gs before hval0 hW hcnd _
  have hval : ∀ (j : Nat) t v, Try.f3.params[j]? = some t → args[j]? = some v → Value.okWide Try.prog W .any base t v := hval0
  have hW' := hW
  obtain ⟨p, q, hA0, hV, rfl, hfz, hnd⟩ := hW
  have hA : DataW.TrodAll enc Try.prog W 0 (fun _ => true) true Try.f3.params.toList args.toList ds p := hA0
  rw [Try.params3] at hA hval
  obtain ⟨v0, vs0, d0, ds0, p0, q0, hargs, rfl, rfl, h0, r0⟩ := trodAll_cons hA
  obtain ⟨v1, vs1, d1, ds1, p1, q1, rfl, rfl, rfl, h1, r1⟩ := trodAll_cons r0
  obtain ⟨rfl, rfl, rfl⟩ := trodAll_nil r1
  obtain rfl : args = #[v0, v1] := by cases args; simp_all
  obtain ⟨rfl, rfl⟩ := trodVars_none hV
  obtain ⟨a0, rfl, rfl, rfl, w0⟩ := open_string Try.underlying9 (hval 0 9 v0 rfl rfl) h0
  obtain ⟨a1, rfl, rfl, rfl, w1⟩ := open_string Try.underlying9 (hval 1 9 v1 rfl rfl) h1
  clear hA0 hval0
  simp only [List.append_nil] at hW'
  refine (walk a0 a1 W).mono fun e W' ⟨he, hg⟩ => ?_
  subst he
  exact ⟨_, rfl, post_of_same (pa := []) (pv := []) hW' (fun _ _ _ => (trodAll_cons_mk (shut_bool Try.underlying4 _) trodAll_mk0)) (fun sp _ => (trodAll_cons_mk (shut_string Try.underlying9 w0) (trodAll_cons_mk (shut_string Try.underlying9 w1) trodAll_mk0))) (fun _ _ => rfl) rfl
    (hg.frame _) hg.2.1 (ok_one (by kernel_rfl) rfl (okWide_bool_mk Try.underlying4 _))⟩

theorem over : Rows.fnConnectivityGroupIDTypeIsOneDistinctNameRow.holds Try.pinned (OpenSpec.ofChange Rows.fnConnectivityGroupIDTypeIsOneDistinctNameSpec) :=
  OpenClaim.holds_of_wide 3 Try.f3 rfl rfl rfl rfl rfl rfl rfl ⟨rfl, rfl, rfl, rfl, rfl⟩ rfl rfl rfl rfl rfl (by kernel_rfl) Try.func3 (by kernel_rfl)
    (of_decide_eq_true (by kernel_rfl)) (by unfold Func.isWrapper; first | (rw [if_pos (by decide +kernel)]; kernel_rfl) | (rw [if_neg (by decide +kernel)]; exact ⟨rfl, rfl⟩))
    (fun os started H enc _ => lifted os started H enc)

/-- ████ THE STATEMENT ████ -/
theorem fnConnectivityGroupIDTypeIsOneDistinctName_proved : Rows.FnConnectivityGroupIDTypeIsOneDistinctNameSaid :=
  over
#print axioms fnConnectivityGroupIDTypeIsOneDistinctName_proved
end Go.Proofs.Qxb6609239a
