/-
  'Rows.FnIPv6RemoteTypeIsOneDistinctNameSaid', PROVED: the row's step round the walk.
-/
import Derived.Test.Qxb6609239aRows
import Derived.Test.Qxb6609239aRemote
import Derived.ProofKit
import Derived.OpenShut
import Derived.WideKeyArgs
namespace Go.Proofs.Qxb6609239a
open Go.ChangeShapes Go.WideShapes Go.ChangeAt Go.RowKit

theorem ownR : ownKnob Try.prog.godebug = none := by kernel_rfl
theorem laidOutR : laidOutB Try.prog = true := by kernel_rfl
theorem rec26 : Try.prog.readableRec 26 = true := by kernel_rfl
theorem row26 : (26 : TypeId) < Try.prog.types.size := of_decide_eq_true (by kernel_rfl)
theorem cells26 : Try.prog.cellsOf 26 = 16 := by kernel_rfl
theorem cells5 : Try.prog.cellsOf 5 = 1 := by kernel_rfl

set_option maxRecDepth 100000 in
/-- An array of bytes that came in: sixteen cells. -/
theorem arr_of {W : World} {r : Reach} {b0 : Nat} {v : Value} (h : Value.okWide Try.prog W r b0 26 v) : ∃ xs : Array Value, v = .agg xs ∧ xs.size = 16 := by
  simp only [Value.okWide, Try.underlying26] at h
  obtain ⟨cs, h1, h2, _⟩ := h
  exact ⟨cs, h1, by rw [h2, cells26]⟩

/-- It reaches no memory. -/
theorem arr_places {H : Type} {enc : TypeId × Value → H} {W : World} {base : Nat} {sp : Nat → Bool} {held : Bool} {xs : Array Value} {d : DataW H} {ps : List MemPlace} (hx : xs.size = 16) (h : DataW.Trod enc Try.prog W base sp held 26 (.agg xs) d ps) : ps = [] := by
  obtain ⟨n, hn⟩ := h
  obtain ⟨ys, m, _, he, _, hyl, hall⟩ := DataW.trod_array Try.underlying26 hn
  have hp : ps = ys.flatMap (·.2) := congrArg Prod.snd he
  rw [hp, List.flatMap_eq_nil_iff]
  intro y hy
  obtain ⟨i, hi, rfl⟩ := List.getElem_of_mem hy
  have h1 := hall i (by omega)
  rw [cells5, Nat.mul_one, List.getElem?_eq_getElem hi] at h1
  have e1 : ((Value.agg xs).cells.toList.drop i).take 1 = [xs[i]'(by omega)] := by
    simp only [Value.cells]
    rw [List.drop_eq_getElem_cons (by simp; omega)]
    simp
  rw [e1] at h1
  obtain ⟨a, _, h2, _⟩ := DataW.trod_int Try.underlying5 h1
  rw [h2]

/-- Sixteen zero bytes. -/
def zero16 : Value := .agg #[.int .u8 0, .int .u8 0, .int .u8 0, .int .u8 0, .int .u8 0, .int .u8 0, .int .u8 0, .int .u8 0, .int .u8 0, .int .u8 0, .int .u8 0, .int .u8 0, .int .u8 0, .int .u8 0, .int .u8 0, .int .u8 0]

set_option maxRecDepth 100000 in
theorem liftedR (os : Os) (started : os.Started) (H : Type) (enc : TypeId × Value → H) :
    ReturnsInHanded {} Try.checked os 4 .any (Rows.fnIPv6RemoteTypeIsOneDistinctNameSpec.pre6 enc Try.prog Try.f4 Rows.fnIPv6RemoteTypeIsOneDistinctNameRow.domain false) (Rows.fnIPv6RemoteTypeIsOneDistinctNameSpec.post enc Try.prog Try.f4 false true false false) := by
  refine returnsInHanded_of_change (C := Try.checked) ownR started (by kernel_rfl) Try.func4
    (ChangeSpec.witness6 (enc := enc) (C := Try.checked) false ⟨#[], #[zero16, .int .u8 0, zero16, .int .u8 0], []⟩ 8 (by kernel_rfl) (by kernel_rfl) (by kernel_rfl) (by kernel_rfl)) ?_
  intro W base args ds gs before hval0 hW hcnd _
  have hval : ∀ (j : Nat) t v, Try.f4.params[j]? = some t → args[j]? = some v → Value.okWide Try.prog W .any base t v := hval0
  have hW' := hW
  obtain ⟨p, q, hA0, hV, rfl, hfz, hnd⟩ := hW
  have hA : DataW.TrodAll enc Try.prog W 0 (fun _ => true) true Try.f4.params.toList args.toList ds p := hA0
  rw [Try.params4] at hA hval
  obtain ⟨v0, vs0, d0, ds0, p0, q0, hargs, rfl, rfl, h0, r0⟩ := trodAll_cons hA
  obtain ⟨v1, vs1, d1, ds1, p1, q1, rfl, rfl, rfl, h1, r1⟩ := trodAll_cons r0
  obtain ⟨v2, vs2, d2, ds2, p2, q2, rfl, rfl, rfl, h2, r2⟩ := trodAll_cons r1
  obtain ⟨v3, vs3, d3, ds3, p3, q3, rfl, rfl, rfl, h3, r3⟩ := trodAll_cons r2
  obtain ⟨rfl, rfl, rfl⟩ := trodAll_nil r3
  obtain rfl : args = #[v0, v1, v2, v3] := by cases args; simp_all
  obtain ⟨rfl, rfl⟩ := trodVars_none hV
  obtain ⟨xs, rfl, hx⟩ := arr_of (hval 0 26 v0 rfl rfl)
  obtain rfl := arr_places hx h0
  obtain ⟨a1, rfl, rfl, rfl, w1⟩ := open_int Try.underlying5 (hval 1 5 v1 rfl rfl) h1
  obtain ⟨ys, rfl, hy⟩ := arr_of (hval 2 26 v2 rfl rfl)
  obtain rfl := arr_places hy h2
  obtain ⟨a3, rfl, rfl, rfl, w3⟩ := open_int Try.underlying5 (hval 3 5 v3 rfl rfl) h3
  have k0 : ∀ (W' : World) (sp : Nat → Bool), DataW.Trod enc Try.prog W' 0 sp true 26 (.agg xs) d0 [] := fun W' sp => Go.WideElems.Trod_stays laidOutR rec26 row26 h0 (by simp) (by simp)
  have k2 : ∀ (W' : World) (sp : Nat → Bool), DataW.Trod enc Try.prog W' 0 sp true 26 (.agg ys) d2 [] := fun W' sp => Go.WideElems.Trod_stays laidOutR rec26 row26 h2 (by simp) (by simp)
  clear hA0 hval0
  simp only [List.append_nil] at hW'
  refine (walkR xs ys hx hy a1 a3 W).mono fun e W' ⟨he, hg⟩ => ?_
  subst he
  exact ⟨_, rfl, post_of_same (pa := []) (pv := []) hW' (fun _ _ _ => (trodAll_cons_mk (shut_bool Try.underlying4 _) trodAll_mk0)) (fun sp _ => (trodAll_cons_mk (k0 _ _) (trodAll_cons_mk (shut_int Try.underlying5 w1) (trodAll_cons_mk (k2 _ _) (trodAll_cons_mk (shut_int Try.underlying5 w3) trodAll_mk0))))) (fun _ _ => rfl) rfl
    (hg.frame _) hg.2.1 (ok_one (by kernel_rfl) rfl (okWide_bool_mk Try.underlying4 _))⟩

/-- THE STATEMENT. -/
theorem fnIPv6RemoteTypeIsOneDistinctName_proved : Rows.FnIPv6RemoteTypeIsOneDistinctNameSaid :=
  OpenClaim.holds_of_wide 4 Try.f4 rfl rfl rfl rfl rfl rfl rfl ⟨rfl, rfl, rfl, rfl, rfl⟩ rfl rfl rfl rfl rfl (by kernel_rfl) Try.func4 (by kernel_rfl)
    (of_decide_eq_true (by kernel_rfl)) (by unfold Func.isWrapper; first | (rw [if_pos (by decide +kernel)]; kernel_rfl) | (rw [if_neg (by decide +kernel)]; exact ⟨rfl, rfl⟩))
    (fun os started H enc _ => liftedR os started H enc)
#print axioms fnIPv6RemoteTypeIsOneDistinctName_proved

end Go.Proofs.Qxb6609239a
