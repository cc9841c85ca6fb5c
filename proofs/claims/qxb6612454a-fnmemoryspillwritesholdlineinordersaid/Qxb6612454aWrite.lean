/-
  THE WALKS of bytes.Clone and of (*memorySpill).write.
-/
import Derived.Test.Qxb6612454aClone
import Derived.Deep.RegionLaw
import Derived.Deep.AppendLies
namespace Go.Proofs.Qxb6612454a
open Go.RowKit

theorem cells_of_reads {w : World} {a : Addr} {n cap : Nat} {l : List Int} (h : Reads w (some a) n cap l) : ∀ j u, (cellsOf l)[j]? = some u → w.cell? (a.add j) = some u := by
  intro j u hu
  have hj : j < n := by
    have := (List.getElem?_eq_some_iff.1 hu).1
    simpa [cellsOf, h.len] using this
  rw [h.cell a rfl j hj]
  have hl : j < l.length := by rw [h.len]; exact hj
  simpa [cellsOf, List.getD, hl] using hu

theorem cells_one (l : List Int) : ∀ u ∈ cellsOf l, u.oneCell' = true := ints_oneCell .u8 l

set_option maxHeartbeats 400000 in
theorem clone_any (ao : Option Addr) (n cap : Nat) (l : List Int) (w : World) (hr : Reads w ao n cap l) (hb : n ≤ 1048576) :
    Calls Try.prog 16 #[.slice ao n cap] w fun e w' => ∃ ao' cap', e = .returned (.slice ao' n cap') ∧ Cloned w w' ao.isNone l (.slice ao' n cap') := by
  have hnil := fun w => Lib.run_eql_slice_nil (P := Try.prog) w 23 5 ao n cap 0 0 Try.underlying23
  obtain ⟨i0, hi, hz0, hz1, hz2⟩ := info_parts info5
  cases ao with
  | none =>
    obtain ⟨rfl, rfl⟩ := hr.nilCase rfl
    have hl : l = [] := List.eq_nil_of_length_eq_zero hr.len
    subst hl
    go_enter Try.func16, Try.ntmps16
    go_wp2
    go_ret
    exact ⟨_, _, rfl, Below.refl _ _, World.ownsRow_nil _ _ _ _, by simp⟩
  | some a =>
    have hlen := hr.len
    have hcs := cells_of_reads hr
    go_enter Try.func16, Try.ntmps16
    have h0 : (w.alloc (.cells #[] 5)).ownsRow w.heap.size 5 1 (.slice (some ⟨w.heap.size, 0, none⟩) 0 0) 0 [] := World.ownsRow_made w #[] 0 (Nat.le_refl _) (Nat.zero_le _) (by simp)
    have hc1 : ∀ j u, (cellsOf l)[j]? = some u → (w.alloc (.cells #[] 5)).cell? (a.add j) = some u := fun j u hu => by
      have := hcs j u hu
      rw [World.cell?_alloc_lt _ _ _ (World.block_lt_of_cell? w _ this), this]
    go_wp2_with (at_builtin; refine wpList_append_own _ rfl _ _ 23 rfl w.heap.size 5 i0 (.int .u8 0) 1 1 Try.underlying23 hi hz0 hz1 hz2 rfl (by decide) _ _ _ rfl h0 a n cap (cellsOf l) rfl ?c0 hc1 (cells_one l) ?c3 ?c4 ?c5 ?_)
    case c0 => simp [cellsOf, hlen]
    case c3 => unfold maxLen; omega
    case c4 => omega
    case c5 => simp
    intro v' w1 hown hgrow hnil'
    obtain ⟨ao', cap', hv⟩ := own_form hown
    have X : Hid (Cloned w w1 false l (.slice ao' n cap')) := by
      refine ⟨((Below.refl _ _).alloc (Nat.le_refl _) _).grown hgrow (by simp) (fun k hk => ?_), ?_, ?_⟩
      · simp [Value.ownBlock] at hk; omega
      · rw [hlen, ← hv]; exact hown
      · rw [← hv]; simp [hnil']
    rw [hv]
    clear hown hgrow hnil' hcs hc1 h0
    go_wp2
    go_ret
    exact ⟨_, _, rfl, X⟩

/-- What write leaves: nil is handed back; the store's slice has one more value u, which holds a copy of b in new memory; nothing else that was there has turned. -/
structure Wrote (w w' : World) (S base nb : Nat) (v : Value) (us : List Value) (d : Piece) (v' u : Value) : Prop where
  spill : w'.heap[S]? = some (.cells #[v'] 38 (0, 0))
  own : w'.ownsRow base 23 1 v' (nb + 1) (us ++ [u])
  holds : Holds w' w.heap.size u d
  lies : v'.ownBlock = v.ownBlock ∨ ∃ g, v'.ownBlock = some g ∧ w.heap.size ≤ g
  os : w'.os = w.os
  tape : w'.tape = w.tape
  output : w'.output = w.output
  size : w.heap.size ≤ w'.heap.size
  block : ∀ k, k < w.heap.size → k ≠ S → some k ≠ v.ownBlock → w'.heap[k]? = w.heap[k]?

section
variable {w w1 w2 : World} {S : Nat} {v : Value} {row : Option Nat} {o : Obj}
theorem keep1 (hlt : S < w.heap.size) (hc : w.cell? ⟨S, 0, none⟩ = some v) (hf : w.frozen? ⟨S, 0, none⟩ = false) (hb : Below w.drew.heap.size w.drew w1) :
    w1.cell? ⟨S, 0, none⟩ = some v ∧ w1.frozen? ⟨S, 0, none⟩ = false :=
  ⟨(hb.cell (p := ⟨S, 0, none⟩) hlt).trans hc, (hb.frozen (p := ⟨S, 0, none⟩) hlt).trans hf⟩
theorem keep2 (hlt : S < w.heap.size) (hc : w.cell? ⟨S, 0, none⟩ = some v) (hf : w.frozen? ⟨S, 0, none⟩ = false) (hb : Below w.drew.heap.size w.drew w1) (o : Obj) :
    (w1.alloc o).cell? ⟨S, 0, none⟩ = some v ∧ (w1.alloc o).frozen? ⟨S, 0, none⟩ = false := keep1 hlt hc hf (hb.alloc hb.size o)
theorem keep3 (hlt : S < w.heap.size) (hc : w.cell? ⟨S, 0, none⟩ = some v) (hf : w.frozen? ⟨S, 0, none⟩ = false) (hb : Below w.drew.heap.size w.drew w1) (hne : row ≠ some S) (hg : (w1.alloc o).grownBy w2 row) :
    w2.cell? ⟨S, 0, none⟩ = some v ∧ w2.frozen? ⟨S, 0, none⟩ = false := by
  have h1 := keep2 hlt hc hf hb o
  have hz : S < (w1.alloc o).heap.size := by have := hb.size; simp at this ⊢; omega
  exact ⟨(hg.cell_far ⟨S, 0, none⟩ hz (Ne.symm hne)).trans h1.1, (hg.frozen_far ⟨S, 0, none⟩ hz (Ne.symm hne)).trans h1.2⟩
end

/-- A block of another element type is not the row's. -/
theorem own_not {w : World} {b e size n S : Nat} {v u : Value} {xs : List Value} {t : TypeId} (h : w.ownsRow b e size v n xs) (hS : w.heap[S]? = some (.cells #[u] t (0, 0))) (ht : e ≠ t) : v.ownBlock ≠ some S := by
  rcases h.2 with ⟨he, _⟩ | ⟨g, cap', cur, he, _, hg, _⟩
  · rw [he]; simp [Value.ownBlock]
  · rw [he]
    intro hh
    simp [Value.ownBlock] at hh
    subst hh
    rw [hg] at hS
    simp at hS
    exact ht hS.2

theorem wrote_of {w w1 w2 : World} {S base nb : Nat} {v : Value} {us : List Value} {nl : Bool} {l : List Int} {ao' : Option Addr} {n cap' g cg : Nat} {o : Obj}
    (hS : w.heap[S]? = some (.cells #[v] 38 (0, 0))) (hne : v.ownBlock ≠ some S) (hown : w.ownsRow base 23 1 v nb us) (hcl : Cloned w.drew w1 nl l (.slice ao' n cap'))
    (hown2 : w2.ownsRow base 23 1 (.slice (some ⟨g, 0, none⟩) (nb + 1) cg) (nb + 1) (us ++ [.slice ao' n cap'])) (hgrow : (w1.alloc o).grownBy w2 v.ownBlock) (hat : v.ownBlock = some g ∨ g = w1.heap.size + 1) :
    Wrote w (w2.setCell ⟨S, 0, none⟩ (.slice (some ⟨g, 0, none⟩) (nb + 1) cg)) S base nb v us (nl, l) (.slice (some ⟨g, 0, none⟩) (nb + 1) cg) (.slice ao' n cap') := by
  have hz1 : w.heap.size ≤ w1.heap.size := hcl.below.size
  have hlt : S < w.heap.size := lt_of_block hS
  have old : ∀ k, k < w.heap.size → some k ≠ v.ownBlock → w2.heap[k]? = w.heap[k]? := fun k hk hkv => by
    rw [hgrow.block k (by simp; omega) hkv, Below.heap_alloc w1 o k (by omega)]
    exact hcl.below.block k hk
  have hS2 : w2.heap[S]? = some (.cells #[v] 38 (0, 0)) := by rw [old S hlt (Ne.symm hne), hS]
  have hz2 : w1.heap.size + 1 ≤ w2.heap.size := by have := hgrow.size; simpa using this
  have hA : (w1.alloc o).ownsRow base 23 1 v nb us := (own_below (w := w.drew) hown hcl.below).alloc o
  have hu1 : (w1.alloc o).ownsRow w.heap.size 5 1 (.slice ao' n cap') l.length (cellsOf l) := hcl.own.alloc o
  have hu2 : w2.ownsRow w.heap.size 5 1 (.slice ao' n cap') l.length (cellsOf l) := hu1.kept hgrow (own_apart hu1 hA)
  refine ⟨one_setCell hS2, ownsRow_setCell_other hown2 (own_not hown2 hS2 (by decide)) _, ⟨ownsRow_setCell_other hu2 (own_not hu2 hS2 (by decide)) _, hcl.nil⟩, ?_, ?_, ?_, ?_, ?_, fun k hk hkS hkv => ?_⟩
  · rcases hat with h | h
    · exact .inl (by rw [h]; rfl)
    · exact .inr ⟨g, rfl, by omega⟩
  · exact hgrow.os.trans hcl.below.os
  · exact hgrow.tape.trans hcl.below.tape
  · exact hgrow.output.trans hcl.below.output
  · simp; omega
  · rw [heap_setCell_other _ _ _ _ hkS, old k hk hkv]

set_option maxHeartbeats 800000 in
theorem write_any (S base : Nat) (ab : Option Addr) (nb cb : Nat) (us : List Value) (ao : Option Addr) (n cap : Nat) (l : List Int) (z : Int) (w : World)
    (hS : w.heap[S]? = some (.cells #[.slice ab nb cb] 38 (0, 0))) (hown : w.ownsRow base 23 1 (.slice ab nb cb) nb us) (hbase : base ≤ w.heap.size) (hr : Reads w ao n cap l) (hb : n ≤ 1048576) (hnb : nb ≤ 1048576) :
    Calls Try.prog 15 #[.pointer (some ⟨S, 0, none⟩), .slice ao n cap, .int .i64 z] w fun e w' => ∃ v' u, e = .returned .nilIface ∧ Wrote w w' S base nb (.slice ab nb cb) us (ao.isNone, l) v' u := by
  obtain ⟨i0, hi0, hz0, hz1, hz2⟩ := info_parts info23
  have hc : w.cell? ⟨S, 0, none⟩ = some (.slice ab nb cb) := cell_of_one hS
  have hf : w.frozen? ⟨S, 0, none⟩ = false := free_of_one hS
  have hlt : S < w.heap.size := World.block_lt_of_cell? w _ hc
  have hne : (Value.slice ab nb cb).ownBlock ≠ some S := own_not hown hS (by decide)
  have hrd : Reads w.drew ao n cap l := ⟨hr.len, hr.nilCase, hr.cell⟩
  go_enter Try.func15, Try.ntmps15
  go_wp2_with fail
  go_region_law (first
      | (refine step_append_lies _ (by rfl) _ _ _ (by rfl) base 23 i0 _ 1 24 Try.underlying22 hi0 hz0 hz1 hz2 rfl (by omega) (.slice ab nb cb) nb us (by rfl) ((own_below (w := w.drew) hown hcl.below).alloc _) ⟨w1.heap.size, 0, none⟩ 1 1 [.slice ao' n cap'] (by rfl) (by rfl) (World.news_of_block (cs := #[.slice ao' n cap']) (t := 23) (fr := (0, 0)) (heap_alloc_new w1 _)) (by simp [Value.oneCell']) (by omega) (by unfold maxLen; omega) (by omega) (by have := hcl.below.size; simp at this ⊢; omega) (w1.heap.size + 1) (by simp) ?_; intro g cg w2 hown2 hgrow hat hlt2; obtain ⟨hc2, hf2⟩ := keep3 hlt hc hf hcl.below hne hgrow)
      | (go_simp; go_wp2_with (go_at_call 16; refine (clone_any ao n cap l _ ?_ hb).mono ?_; exact hrd; rintro e w1 ⟨ao', cap', rfl, hcl⟩; obtain ⟨hc1, hf1⟩ := keep1 hlt hc hf hcl.below; have hc1a := (keep2 hlt hc hf hcl.below (.cells #[.slice ao' n cap'] 23)).1)))
  all_goals
    have X : Hid (Wrote w (w2.setCell ⟨S, 0, none⟩ (.slice (some ⟨g, 0, none⟩) (nb + 1) cg)) S base nb (.slice ab nb cb) us (ao.isNone, l) (.slice (some ⟨g, 0, none⟩) (nb + 1) cg) (.slice ao' n cap')) := wrote_of hS hne hown hcl hown2 hgrow hat
    clear hown2 hgrow hat hcl hc1 hf1 hc1a hc2 hf2
    go_wp2
    go_ret
    exact ⟨_, _, rfl, X⟩

end Go.Proofs.Qxb6612454a
