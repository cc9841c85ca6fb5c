/-
  THE WALKS of (*bytes.Reader).Read.
-/
import Derived.Test.Qxb6612454aDoorParts
import Derived.Deep.QuietTactic
import Derived.BigQuiet
import Derived.Deep.RegionHeld3
import Derived.Laws.CopyOwn
namespace Go.Proofs.Qxb6612454aDoor
open Go.RowKit

theorem size5 : (Tryd.prog.info? 5).map (·.size) = some 1 := by kernel_rfl

/-- Only these blocks may have turned; none is new. -/
structure Only (ks : List Nat) (w w' : World) : Prop where
  os : w'.os = w.os
  tape : w'.tape = w.tape
  output : w'.output = w.output
  size : w'.heap.size = w.heap.size
  block : ∀ k, k ∉ ks → w'.heap[k]? = w.heap[k]?

theorem Only.refl (ks : List Nat) (w : World) : Only ks w w := ⟨rfl, rfl, rfl, rfl, fun _ _ => rfl⟩
theorem Only.trans {ks : List Nat} {a b c : World} (h : Only ks a b) (k : Only ks b c) : Only ks a c :=
  ⟨k.os.trans h.os, k.tape.trans h.tape, k.output.trans h.output, k.size.trans h.size, fun i hi => (k.block i hi).trans (h.block i hi)⟩
theorem Only.mono {ks js : List Nat} {a b : World} (h : Only ks a b) (hs : ∀ k, k ∈ ks → k ∈ js) : Only js a b :=
  ⟨h.os, h.tape, h.output, h.size, fun i hi => h.block i (fun hh => hi (hs i hh))⟩
theorem Only.drewN {ks : List Nat} {a b : World} (h : Only ks a b) (n : Nat) : Only ks a (b.drewN n) := ⟨h.os, h.tape, h.output, h.size, h.block⟩
theorem Only.drew {ks : List Nat} {a b : World} (h : Only ks a b) : Only ks a b.drew := ⟨h.os, h.tape, h.output, h.size, h.block⟩
theorem Only.setCell {ks : List Nat} {a b : World} (h : Only ks a b) (p : Addr) (v : Value) (hp : p.block ∈ ks) : Only ks a (b.setCell p v) :=
  h.trans ⟨rfl, rfl, rfl, by simp, fun k hk => Below.heap_setCell _ _ _ _ (fun e => hk (e ▸ hp))⟩
theorem Only.setRow {ks : List Nat} {a b : World} (h : Only ks a b) (g : Nat) (cs : Array Value) (hp : g ∈ ks) : Only ks a (b.setRow g cs) :=
  h.trans ⟨rfl, rfl, rfl, by simp, fun k hk => setRow_other b g k cs (fun e => hk (e ▸ hp))⟩

/-- 'copy' of at least one cell into a row that is known whole, as one step of a region that draws its order: the world written out. -/
theorem step_copy_at {P : Program} {ops : Array Oper} {o : Oper} {a : Act} {w : World} {K : Act → World → Prop} {Q : Exit → Act → World → Prop} {E : Prop} (hgd : o.guard = none) (d s : Operand) (dT sT : TypeId)
    (ho : o.op = .call { callee := .builtin .copy, args := #[d, s], argTypes := #[dT, sT] }) (elem : TypeId) (hu : P.underlying dT = some (.slice elem)) (hsz : (P.info? elem).map (·.size) = some 1)
    (g off dLen dCap : Nat) (ad : Addr) (sLen sCap : Nat) (hd : a.eval d = .slice (some ⟨g, off, none⟩) dLen dCap) (hs : a.eval s = .slice (some ad) sLen sCap)
    (cur : List Value) (t : TypeId) (hg : w.heap[g]? = some (.cells cur.toArray t (0, 0))) (cs : List Value) (n : Nat) (hcs : cs.length = n) (hn : cs.length = Nat.min sLen dLen)
    (hsrc : ∀ j v, cs[j]? = some v → w.cell? (ad.add j) = some v) (hfit : off + cs.length ≤ cur.length) (h1 : ∀ v ∈ cs, v.oneCell' = true)
    (h : K (a.put o.dst (.int .i64 n)) (w.setRow g (splice cur off cs).toArray)) :
    if Region.wanted o (yielded ops a.tmps) = true then Oper.wp P o a w K Q else E := by
  have hw : Region.wanted o (yielded ops a.tmps) = true := by simp [Region.wanted, hgd]
  rw [if_pos hw]
  subst hcs
  have hrun := run_copy_row (P := P) w dT sT o.type elem g off dLen dCap ad sLen sCap cur.toArray t cs hu hsz hg hn hsrc (by simpa using hfit) h1
  unfold Oper.wp
  simp [execOp, ho, resolve, invoke, builtin, hd, hs, hrun, Result.andThen]
  exact h

set_option maxHeartbeats 400000 in
/-- At the end of the data: io.EOF. -/
theorem rd_end (Rb : Nat) (aD : Option Addr) (N cD : Nat) (ao : Option Addr) (m c : Nat) (E : Value) (w : World)
    (h0 : w.cell? ⟨Rb, 0, none⟩ = some (.slice aD N cD)) (h1 : w.cell? ⟨Rb, 1, none⟩ = some (.int .i64 N)) (hE : w.cell? ⟨0, 0, none⟩ = some E) :
    Calls Tryd.prog 31 #[.pointer (some ⟨Rb, 0, none⟩), .slice ao m c] w fun e w' => e = .returned (.tuple #[.int .i64 0, E]) ∧ ∃ k, w' = w.drewN k := by
  go_enter Tryd.func31, Tryd.ntmps31
  go_wp2
  go_quiet (fail)
  go_wp2
  go_quiet (fail)
  go_wp2
  go_ret2
  exact ⟨rfl, _, World.drewN_drewN _ _ _⟩

/-- The cells of the next n bytes of L, from i on. -/
def seg (L : List Int) (i n : Nat) : List Value := cellsOf ((L.drop i).take n)

theorem seg_length (L : List Int) (i n : Nat) (h : i + n ≤ L.length) : (seg L i n).length = n := by simp [seg, cellsOf]; omega
theorem seg_one (L : List Int) (i n : Nat) : ∀ v ∈ seg L i n, v.oneCell' = true := ints_oneCell .u8 _
theorem seg_at (L : List Int) (i n j : Nat) (hj : j < n) (h : i + n ≤ L.length) : (seg L i n)[j]? = some (.int .u8 (L.getD (i + j) 0)) := by
  have h1 : i + j < L.length := by omega
  simp [seg, cellsOf, hj, List.getD, h1]

/-- What a Read of n bytes leaves. -/
structure Got (w w' : World) (Rb g off : Nat) (aD : Option Addr) (N cD : Nat) (L : List Int) (cur : List Value) (i n : Nat) : Prop where
  rd : w'.heap[Rb]? = some (.cells #[.slice aD N cD, .int .i64 (i + n : Nat), .int .i64 (-1)] 47 (0, 0))
  row : w'.heap[g]? = some (.cells (splice cur off (seg L i n)).toArray 5 (0, 0))
  only : Only [Rb, g] w w'

set_option maxHeartbeats 400000 in
theorem rd_some (Rb : Nat) (aD : Addr) (N cD : Nat) (L : List Int) (i n : Nat) (p : Int) (g off m c : Nat) (cur : List Value) (w : World)
    (hR : w.heap[Rb]? = some (.cells #[.slice (some aD) N cD, .int .i64 i, .int .i64 p] 47 (0, 0))) (hD : Reads w (some aD) N cD L) (hDR : aD.block ≠ Rb)
    (hg : w.heap[g]? = some (.cells cur.toArray 5 (0, 0))) (hgR : g ≠ Rb) (hi : i < N) (hN : N ≤ 1048576) (hNc : N ≤ cD) (hfit : off + m ≤ cur.length) (hn : n = min m (N - i)) :
    Calls Tryd.prog 31 #[.pointer (some ⟨Rb, 0, none⟩), .slice (some ⟨g, off, none⟩) m c] w fun e w' => e = .returned (.tuple #[.int .i64 n, .nilIface]) ∧ Got w w' Rb g off (some aD) N cD L cur i n := by
  obtain ⟨b, o, sp⟩ := aD
  obtain ⟨rfl, hblk, _⟩ := hD.opened hi
  have h0 : w.cell? ⟨Rb, 0, none⟩ = some (.slice (some ⟨b, o, none⟩) N cD) := by simp [World.cell?, hR]
  have h1 : w.cell? ⟨Rb, 1, none⟩ = some (.int .i64 i) := by simp [World.cell?, hR]
  have h2 : w.cell? ⟨Rb, 2, none⟩ = some (.int .i64 p) := by simp [World.cell?, hR]
  have f1 : w.frozen? ⟨Rb, 1, none⟩ = false := by simp [World.frozen?, hR]
  have f2 : w.frozen? ⟨Rb, 2, none⟩ = false := by simp [World.frozen?, hR]
  have hiN : ¬ (N : Int) ≤ (i : Int) := by omega
  have hi0 : (0 : Int) ≤ (i : Int) := by omega
  have hi1 : (i : Int) ≤ (N : Int) := by omega
  have hi2 : (i : Int) < (cD : Int) := by omega
  have hci : ¬ cD = i := by omega
  go_enter Tryd.func31, Tryd.ntmps31
  go_wp2
  go_quiet (fail)
  go_wp2
  have hRW : ((w.drewN nq).setCell ⟨Rb, 2, none⟩ (.int .i64 (-1))).heap[Rb]? = some (.cells #[.slice (some ⟨b, o, none⟩) N cD, .int .i64 i, .int .i64 (-1)] 47 (0, 0)) := heap_setCell_same (w.drewN nq) Rb 2 _ 47 _ hR
  have hgW : ((w.drewN nq).setCell ⟨Rb, 2, none⟩ (.int .i64 (-1))).heap[g]? = some (.cells cur.toArray 5 (0, 0)) := by
    rw [Below.heap_setCell _ _ _ _ hgR]; exact hg
  have hDW : Reads ((w.drewN nq).setCell ⟨Rb, 2, none⟩ (.int .i64 (-1))) (some ⟨b, o, none⟩) N cD L := ⟨hD.len, hD.nilCase, fun a ha j hj => by
    cases ha
    rw [World.cell?_of_block (w := w) (by rw [Below.heap_setCell _ _ _ _ (by simpa [Addr.add_lit] using hDR)]; rfl)]
    exact hD.cell _ rfl j hj⟩
  have hO : Only [Rb, g] w ((w.drewN nq).setCell ⟨Rb, 2, none⟩ (.int .i64 (-1))) := ((Only.refl _ _).drewN _).setCell _ _ (by simp)
  clear h0 h1 h2 f1 f2 hR hg
  generalize (w.drewN nq).setCell ⟨Rb, 2, none⟩ (.int .i64 (-1)) = W at hRW hgW hDW hO ⊢
  have h0 : W.cell? ⟨Rb, 0, none⟩ = some (.slice (some ⟨b, o, none⟩) N cD) := by simp [World.cell?, hRW]
  have h1 : W.cell? ⟨Rb, 1, none⟩ = some (.int .i64 i) := by simp [World.cell?, hRW]
  have hL := hD.len
  have hmn : (seg L i n).length = Nat.min (N - i) m := by rw [seg_length L i n (by omega), hn, Nat.min_comm]
  have hnn : (seg L i n).length = n := seg_length L i n (by omega)
  have hsrc : ∀ j v, (seg L i n)[j]? = some v → W.drew.cell? ((⟨b, o + i, none⟩ : Addr).add j) = some v := fun j v hv => by
    have hj : j < n := by have := (List.getElem?_eq_some_iff.1 hv).1; omega
    rw [seg_at L i n j hj (by omega)] at hv
    rw [← hv]
    have := hDW.cell _ rfl (i + j) (by omega)
    rw [Addr.add_lit] at this ⊢
    rw [Nat.add_assoc]
    exact this
  have hff : off + (seg L i n).length ≤ cur.length := by rw [hnn]; omega
  have hkeep : ∀ cs, (W.drew.setRow g cs).cell? ⟨Rb, 0, none⟩ = some (.slice (some ⟨b, o, none⟩) N cD) ∧ (W.drew.setRow g cs).cell? ⟨Rb, 1, none⟩ = some (.int .i64 i) := fun cs =>
    ⟨(World.cell?_of_block (setRow_other W.drew g Rb cs (Ne.symm hgR))).trans h0, (World.cell?_of_block (setRow_other W.drew g Rb cs (Ne.symm hgR))).trans h1⟩
  have X : Hid (Got w ((W.drew.setRow g (splice cur off (seg L i n)).toArray).setCell ⟨Rb, 1, none⟩ (.int .i64 (i + n : Nat))) Rb g off (some ⟨b, o, none⟩) N cD L cur i n) := by
    refine ⟨heap_setCell_same _ Rb 1 #[.slice (some ⟨b, o, none⟩) N cD, .int .i64 i, .int .i64 (-1)] 47 _ ((setRow_other W.drew g Rb _ (Ne.symm hgR)).trans hRW), ?_, ((hO.drew).setRow _ _ (by simp)).setCell _ _ (by simp)⟩
    rw [Below.heap_setCell _ _ _ _ hgR]
    exact setRow_heap W.drew g _ _ 5 _ hgW
  have hf1 : (W.drew.setRow g (splice cur off (seg L i n)).toArray).frozen? ⟨Rb, 1, none⟩ = false := by
    rw [World.frozen?_of_block (setRow_other W.drew g Rb _ (Ne.symm hgR))]
    show W.frozen? ⟨Rb, 1, none⟩ = false
    simp [World.frozen?, hRW]
  have hgD : W.drew.heap[g]? = some (.cells cur.toArray 5 (0, 0)) := hgW
  have hbd : (i : Int) + (n : Int) ≤ 1048576 := by omega
  have hk1 := (hkeep (splice cur off (seg L i n)).toArray).2
  clear hO hDW hRW hgW hL hn
  go_region_held3 (fun w' => w'.cell? ⟨Rb, 0, none⟩ = some (.slice (some ⟨b, o, none⟩) N cD) ∧ w'.cell? ⟨Rb, 1, none⟩ = some (.int .i64 i))
    (first | (go_keep; done) | (exact hkeep _))
    (first | (refine step_copy_at (by rfl) _ _ _ _ (by rfl) 5 Tryd.underlying22 size5 g off m c ⟨b, o + i, none⟩ (N - i) (cD - i) (by rfl) (by rfl) cur 5 hgD (seg L i n) n hnn hmn hsrc hff (seg_one L i n) ?_))
  go_wp2
  go_ret2
  exact ⟨rfl, X⟩

end Go.Proofs.Qxb6612454aDoor
