/-
  THE WALKS: fmt.Sprintf with no operand (its text left open), failure, noQueue, ZZnoQueueAPI, ZZcode, ZZfieldsNil, the law. For every F.
-/
import Derived.Test.Qxb6609385aFmtProg
import Derived.WalkKit
import Derived.WalkSpells
import Derived.Stop.CallBack
import Derived.Stop.IfaceNil
import GoSem.ClaimData
import Derived.Below
import Derived.LaidEqlPtr
import Derived.RowKit3
namespace Go.Proofs.Qxb6609385aFmt
open Go.RowKit Go.Extern.Stop Go.Stop Go.Extern

theorem call9 (args : Array Value) (w : World) : (callFunc 9 args).run Tryf.prog w = (FmtCalls.sprintf #[9, 35] #[9] args).run Tryf.prog w :=
  run_callFunc_next Tryf.func9 (by kernel_rfl) (by kernel_rfl) (by kernel_rfl) args w
theorem guardF (name : String) (w : World) : (FmtStop.guard name).run Tryf.prog w = .ok () w := by kernel_rfl
theorem nextTurns : Extern.next FmtCalls.turnsRow = some (FmtCalls.begun #[] #[]) := by kernel_rfl

/-- The code. -/
def codeQ : ByteArray := ⟨#[81, 117, 101, 117, 101, 68, 111, 101, 115, 78, 111, 116, 69, 120, 105, 115, 116]⟩
/-- The message's format. -/
def msgQ : ByteArray := ⟨#[84, 104, 101, 32, 115, 112, 101, 99, 105, 102, 105, 101, 100, 32, 113, 117, 101, 117, 101, 32, 100, 111, 101, 115, 32, 110, 111, 116, 32, 101, 120, 105, 115, 116, 46]⟩

theorem fmt0 : FmtStop.printed? msgQ 0 = some [] := by kernel_rfl

/-- A new error value with the code and no fields. -/
def NewErr (w : World) (e : Ending) (w' : World) : Prop := ∃ t, e = .returned (.pointer (some ⟨w.heap.size, 0, none⟩)) ∧ w' = (w.alloc (.cells #[.string codeQ, .string t, .map none] 33)).drew

theorem failure_any (F : Interp) (w : World) (hF : F.answers w.tape) :
    Calls Tryf.prog 8 #[.string codeQ, .string msgQ, .slice none 0 0] w fun e w' => NewErr w e w' := by
  have hF' := answers_open hF
  have hc := call9
  have hg := guardF
  have hf := fmt0
  go_enter Tryf.func8, Tryf.ntmps8
  go_wp2
  apply rows_value nextTurns
  case hr =>
    go_simp
    exact ⟨rfl, rfl⟩
  case h =>
    go_wp2
    go_ret
    exact ⟨_, rfl, rfl⟩

/-- The same, as an interface value. -/
def NewIface (w : World) (e : Ending) (w' : World) : Prop := ∃ t, e = .returned (.iface 22 (.pointer (some ⟨w.heap.size, 0, none⟩))) ∧ w' = (w.alloc (.cells #[.string codeQ, .string t, .map none] 33)).drew

theorem noQueue_any (F : Interp) (w : World) (hF : F.answers w.tape) : Calls Tryf.prog 7 #[] w fun e w' => NewIface w e w' := by
  have H := failure_any F w hF
  go_enter Tryf.func7, Tryf.ntmps7
  go_wp2_with fail
  refine H.mono ?_
  rintro e w1 ⟨t, rfl, rfl⟩
  go_wp2
  go_ret
  exact ⟨t, rfl, rfl⟩

/-- The same, with the assertion's word. -/
def NewPair (w : World) (e : Ending) (w' : World) : Prop := ∃ t, e = .returned (.tuple #[.pointer (some ⟨w.heap.size, 0, none⟩), .bool true]) ∧ w' = (w.alloc (.cells #[.string codeQ, .string t, .map none] 33)).drew

theorem yes22 (v : Value) (w : World) : (Instr.typeAssert (.iface 22 v) 29 22 true).run Tryf.prog w = .ok (.tuple #[v, .bool true]) w := by kernel_rfl

theorem api_any (F : Interp) (w : World) (hF : F.answers w.tape) : Calls Tryf.prog 4 #[] w fun e w' => NewPair w e w' := by
  have H := noQueue_any F w hF
  have hy := yes22
  go_enter Tryf.func4, Tryf.ntmps4
  go_wp2_with fail
  refine H.mono ?_
  rintro e w1 ⟨t, rfl, rfl⟩
  go_wp2
  go_ret2
  exact ⟨t, rfl, rfl⟩

theorem code_any (b : Nat) (s : ByteArray) (w : World) (h : w.cell? ⟨b, 0, none⟩ = some (.string s)) : Calls Tryf.prog 5 #[.pointer (some ⟨b, 0, none⟩)] w fun e w' => e = .returned (.string s) ∧ w' = w := by
  go_enter Tryf.func5, Tryf.ntmps5
  go_wp2
  go_ret
  exact ⟨rfl, rfl⟩

theorem fields_any (b : Nat) (w : World) (h : w.cell? ⟨b, 2, none⟩ = some (.map none)) : Calls Tryf.prog 6 #[.pointer (some ⟨b, 0, none⟩)] w fun e w' => e = .returned (.bool true) ∧ w' = w := by
  have qT : ∀ (w : World) (r : Option Nat), (binOp .eql 31 (.map r) (.map none)).run Tryf.prog w = .ok (.bool r.isNone) w := fun w r => run_eql_map_nil w _ _ _ r Tryf.underlying31
  go_enter Tryf.func6, Tryf.ntmps6
  go_wp2
  go_ret
  exact ⟨rfl, rfl⟩

theorem info33 : (Tryf.prog.info? 33).map (fun j => decide (j.size = 0)) = some false := by kernel_rfl

theorem other_ptr {b c : Nat} {w : World} {x y : Array Value} (hne : ¬ b = c) (hb : w.heap[b]? = some (.cells x 33 (0, 0))) (hc : w.heap[c]? = some (.cells y 33 (0, 0))) :
    (binOp .eql 22 (.pointer (some ⟨b, 0, none⟩)) (.pointer (some ⟨c, 0, none⟩))).run Tryf.prog w = .ok (.bool false) w := by
  have h := info33
  cases hj : Tryf.prog.info? 33 with
  | none => rw [hj] at h; cases h
  | some j =>
    rw [hj] at h
    have hz : ¬ j.size = 0 := by
      have := Option.some.inj h
      exact of_decide_eq_false this
    exact run_eql_ptr_other w Tryf.underlying22 hj hz (fun e => hne (congrArg Addr.block e)) hb hc

set_option maxHeartbeats 3200000 in
theorem law_any (F : Interp) (w : World) (hF : F.answers w.tape) : Calls Tryf.prog 3 #[] w fun e w' => e = .returned (.bool true) ∧ Below w.heap.size w w' := by
  have H1 := api_any F w hF
  go_enter Tryf.func3, Tryf.ntmps3
  go_wp2_with fail
  refine H1.mono ?_
  rintro e w1 ⟨t, rfl, hw1⟩
  have hF1 : F.answers w1.tape := by rw [hw1]; exact hF
  have hb1 : Below w.heap.size w w1 := by rw [hw1]; exact ((Below.refl _ w).alloc (Nat.le_refl _) _).drew
  have hs1 : w1.heap.size = w.heap.size + 1 := by rw [hw1]; simp
  have c10 : w1.cell? ⟨w.heap.size, 0, none⟩ = some (.string codeQ) := by rw [hw1]; simp
  have c12 : w1.cell? ⟨w.heap.size, 2, none⟩ = some (.map none) := by rw [hw1]; simp
  have k1 : w1.heap[w.heap.size]? = some (.cells #[.string codeQ, .string t, .map none] 33 (0, 0)) := by rw [hw1]; exact (MapKept.heap_alloc w _).1
  clear hw1 H1
  have H2 := api_any F w1 hF1
  have HB : Hid (Below w.heap.size w w1 ∧ w1.heap.size = w.heap.size + 1 ∧ w1.cell? ⟨w.heap.size, 0, none⟩ = some (.string codeQ) ∧ w1.cell? ⟨w.heap.size, 2, none⟩ = some (.map none) ∧ w1.heap[w.heap.size]? = some (.cells #[.string codeQ, .string t, .map none] 33 (0, 0))) := ⟨hb1, hs1, c10, c12, k1⟩
  clear hb1 hs1 c10 c12 k1
  go_wp2_with fail
  refine H2.mono ?_
  rintro e w2 ⟨t2, rfl, hw2⟩
  obtain ⟨hb1, hs1, c10, c12, k1⟩ := HB.out
  have hb12 : Below w1.heap.size w1 w2 := by rw [hw2]; exact ((Below.refl _ w1).alloc (Nat.le_refl _) _).drew
  have c20 : w2.cell? ⟨w1.heap.size, 0, none⟩ = some (.string codeQ) := by rw [hw2]; simp
  have c22 : w2.cell? ⟨w1.heap.size, 2, none⟩ = some (.map none) := by rw [hw2]; simp
  have d10 : w2.cell? ⟨w.heap.size, 0, none⟩ = some (.string codeQ) := (hb12.cell (by show w.heap.size < _; omega)).trans c10
  have d12 : w2.cell? ⟨w.heap.size, 2, none⟩ = some (.map none) := (hb12.cell (by show w.heap.size < _; omega)).trans c12
  have X : Hid (Below w.heap.size w w2) := hb1.trans (hb12.mono (by omega))
  have hne : ¬ w.heap.size = w1.heap.size := by omega
  have k2 : w2.heap[w1.heap.size]? = some (.cells #[.string codeQ, .string t2, .map none] 33 (0, 0)) := by rw [hw2]; exact (MapKept.heap_alloc w1 _).1
  have Q := other_ptr hne ((hb12.block _ (by omega)).trans k1) k2
  clear k1 k2 hw2 H2 HB hb1 hb12 c10 c12 hs1
  have K1 := code_any w.heap.size codeQ w2 d10
  have K2 := code_any w1.heap.size codeQ w2 c20
  have L1 := fields_any w.heap.size w2 d12
  have L2 := fields_any w1.heap.size w2 c22
  clear c20 c22 d10 d12
  unfold codeQ at K1 K2
  go_wp2_with (first | (go_at_call 5; first | (refine K1.mono ?_; rintro e w3 ⟨rfl, rfl⟩) | (refine K2.mono ?_; rintro e w3 ⟨rfl, rfl⟩)) | (go_at_call 6; first | (refine L1.mono ?_; rintro e w3 ⟨rfl, rfl⟩) | (refine L2.mono ?_; rintro e w3 ⟨rfl, rfl⟩)))
  go_ret
  exact ⟨rfl, X⟩

end Go.Proofs.Qxb6609385aFmt
