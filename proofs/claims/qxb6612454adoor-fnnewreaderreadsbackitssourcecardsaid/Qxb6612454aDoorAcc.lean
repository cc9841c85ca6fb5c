/-
  io.ReadAll: WHAT ITS LOOP HOLDS, and how each way of a round hands it on. No walk.
-/
import Derived.Test.Qxb6612454aDoorState
namespace Go.Proofs.Qxb6612454aDoor
open Go.RowKit

/-- Below H only these blocks may have turned. -/
structure Kept (H : Nat) (ks : List Nat) (w w' : World) : Prop where
  os : w'.os = w.os
  tape : w'.tape = w.tape
  output : w'.output = w.output
  size : w.heap.size ≤ w'.heap.size
  block : ∀ k, k < H → k ∉ ks → w'.heap[k]? = w.heap[k]?

theorem Kept.refl (H : Nat) (ks : List Nat) (w : World) : Kept H ks w w := ⟨rfl, rfl, rfl, Nat.le_refl _, fun _ _ _ => rfl⟩
theorem Kept.trans {H : Nat} {ks : List Nat} {a b c : World} (h : Kept H ks a b) (k : Kept H ks b c) : Kept H ks a c :=
  ⟨k.os.trans h.os, k.tape.trans h.tape, k.output.trans h.output, Nat.le_trans h.size k.size, fun i hi hk => (k.block i hi hk).trans (h.block i hi hk)⟩
theorem Kept.only {H : Nat} {ks js : List Nat} {a b : World} (h : Only js a b) (hs : ∀ k, k < H → k ∈ js → k ∈ ks) : Kept H ks a b :=
  ⟨h.os, h.tape, h.output, by rw [h.size]; exact Nat.le_refl _, fun i hi hk => h.block i (fun hh => hk (hs i hi hh))⟩
theorem Kept.below {H : Nat} {ks : List Nat} {a b : World} (h : Below H a b) : Kept H ks a b := ⟨h.os, h.tape, h.output, h.size, fun i hi _ => h.block i hi⟩

theorem own_same {w w' : World} {b : Nat} {e : TypeId} {size : Nat} {v : Value} {n : Nat} {xs : List Value} (h : w.ownsRow b e size v n xs) (hk : ∀ k, v.ownBlock = some k → w'.heap[k]? = w.heap[k]?) : w'.ownsRow b e size v n xs := by
  refine ⟨h.1, ?_⟩
  rcases h.2 with h0 | ⟨g, cap, cur, rfl, hb, hg, r⟩
  · exact .inl h0
  · exact .inr ⟨g, cap, cur, rfl, hb, by rw [hk g rfl]; exact hg, r⟩

/-- A chunk: a slice of bytes in the call's own memory, not in block g. -/
def Chunk (w : World) (H g : Nat) (u : Value) (C : List Int) : Prop :=
  ∃ gj cj, u = .slice (some ⟨gj, 0, none⟩) C.length cj ∧ gj ≠ g ∧ w.ownsRow H 5 1 (.slice (some ⟨gj, 0, none⟩) C.length cj) C.length (cellsOf C)

/-- The middle of a round: b may be full. -/
structure Mid (P : Place) (H : Nat) (w wr : World) (g lb cb nx : Nat) (vc : Value) (us : List Value) (Cs : List (List Int)) (Bs : List Int) (fs i r q : Nat) : Prop where
  st : St P wr i r q
  HG : P.Gb < H
  kept : Kept H [P.Bb, P.Rb, P.Gb] w wr
  ownb : wr.ownsRow H 5 1 (.slice (some ⟨g, 0, none⟩) lb cb) lb (cellsOf Bs)
  ownc : wr.ownsRow H 22 1 vc Cs.length us
  lenu : us.length = Cs.length
  each : ∀ j, j < Cs.length → Chunk wr H g (us.getD j .nilIface) (Cs.getD j [])
  lenb : Bs.length = lb
  fsum : Cs.flatten.length = fs
  bytes : Cs.flatten ++ Bs = P.L.take (i - (q - r))
  cb1 : 256 ≤ cb
  lbc : lb ≤ cb
  cbm : cb ≤ maxLen
  nx1 : 256 ≤ nx
  nx2 : nx ≤ 2 * fs + 512
  nx3 : 2 * nx ≤ 3 * cb
  kc : Cs.length ≤ fs
  Hle : H ≤ wr.heap.size

/-- The head of a round: b has room. -/
structure Acc (P : Place) (H : Nat) (w wr : World) (g lb cb nx : Nat) (vc : Value) (us : List Value) (Cs : List (List Int)) (Bs : List Int) (fs i r q : Nat) : Prop where
  mid : Mid P H w wr g lb cb nx vc us Cs Bs fs i r q
  room : cb / 16 ≤ cb - lb

theorem Mid.count {P : Place} {H : Nat} {w wr : World} {g lb cb nx : Nat} {vc : Value} {us : List Value} {Cs : List (List Int)} {Bs : List Int} {fs i r q : Nat} (h : Mid P H w wr g lb cb nx vc us Cs Bs fs i r q) :
    fs + lb = i - (q - r) ∧ fs + lb ≤ P.N := by
  have h1 := congrArg List.length h.bytes
  have hL := h.st.data.len
  have hi := h.st.iN
  rw [List.length_append, h.fsum, h.lenb, List.length_take, hL] at h1
  omega

/-- The state lies below the call's own memory: it stands behind whatever keeps that. -/
theorem St.below {P : Place} {w w2 : World} {i r q : Nat} (h : St P w i r q) {B : Nat} (hb : Below B w w2) (hG : P.Gb < B) : St P w2 i r q := by
  have h1 := h.o1
  have h2 := h.o2
  have h3 := h.o3
  obtain ⟨lb, lr, hB'⟩ := h.br
  obtain ⟨p, hR⟩ := h.rd
  obtain ⟨curG, hG', hlG, hby⟩ := h.buf
  refine ⟨⟨lb, lr, (hb.block _ (by omega)).trans hB'⟩, ⟨p, (hb.block _ (by omega)).trans hR⟩, ⟨curG, (hb.block _ (by omega)).trans hG', hlG, hby⟩, ?_, h.dlt,
    (hb.cell (by show 0 < _; omega)).trans h.eof, h1, h2, h3, h.rq, h.qM, h.iN, h.qi, h.m16, h.m64, h.n20⟩
  exact ⟨h.data.len, h.data.nilCase, fun a ha j hj => by
    rw [hb.cell (by rw [block_add]; have := (h.dlt a ha).1; omega)]
    exact h.data.cell a ha j hj⟩

/-- The start of the loop. -/
theorem Acc.start {P : Place} {w : World} {r : Nat} (h : St P w 0 r r) (hH : P.Gb < w.heap.size) {w1 w2 : World} {gb gc : Nat}
    (o1 : w1.ownsRow w.heap.size 5 1 (.slice (some ⟨gb, 0, none⟩) 0 512) 0 []) (b1 : Below w.heap.size w w1) (o2 : w2.ownsRow w.heap.size 22 1 (.slice (some ⟨gc, 0, none⟩) 0 4) 0 []) (b2 : Below w1.heap.size w1 w2) :
    Acc P w.heap.size w w2 gb 0 512 256 (.slice (some ⟨gc, 0, none⟩) 0 4) [] [] [] 0 0 r r := by
  have hb : Below w.heap.size w w2 := b1.trans (b2.mono b1.size)
  exact ⟨⟨h.below hb hH, hH, Kept.below hb, own_below o1 b2, o2, rfl, fun j hj => absurd hj (Nat.not_lt_zero _), rfl, rfl, by simp, by omega, Nat.zero_le _, by unfold maxLen; omega, Nat.le_refl _, by omega, by omega, Nat.zero_le _, hb.size⟩, by omega⟩

theorem own_eq {g n c k : Nat} (h : (Value.slice (some ⟨g, 0, none⟩) n c).ownBlock = some k) : g = k := by simpa [Value.ownBlock] using h

theorem own_apart {w : World} {b b' : Nat} {u v : Value} {n m : Nat} {xs ys : List Value} (h : w.ownsRow b 5 1 u n xs) (k : w.ownsRow b' 22 1 v m ys) : u.ownBlock = none ∨ u.ownBlock ≠ v.ownBlock := by
  rcases h.2 with ⟨rfl, _⟩ | ⟨g, cap, cur, rfl, _, hg, _⟩
  · exact .inl rfl
  · right
    rcases k.2 with ⟨rfl, _⟩ | ⟨g', cap', cur', rfl, _, hg', _⟩
    · simp [Value.ownBlock]
    · intro he
      simp [Value.ownBlock] at he
      subst he
      rw [hg] at hg'
      simp at hg'

/-- The row of b, as a Read asks it. -/
theorem Mid.row {P : Place} {H : Nat} {w wr : World} {g lb cb nx : Nat} {vc : Value} {us : List Value} {Cs : List (List Int)} {Bs : List Int} {fs i r q : Nat} (h : Mid P H w wr g lb cb nx vc us Cs Bs fs i r q) : ∃ cur : List Value, wr.heap[g]? = some (.cells cur.toArray 5 (0, 0)) ∧ cur.length = cb ∧ cur.take lb = cellsOf Bs := by
  rcases h.ownb.2 with ⟨he, _⟩ | ⟨g', cap', cur, he, _, hg, _, _, hs, ht⟩
  · simp at he
  · simp at he
    obtain ⟨rfl, rfl⟩ := he
    exact ⟨cur.toList, by simpa using hg, by simpa using hs, by simpa using ht⟩

theorem take_splice {α : Type} (cur cs : List α) (off : Nat) (h : off ≤ cur.length) : (splice cur off cs).take (off + cs.length) = cur.take off ++ cs := by
  unfold splice
  rw [← List.append_assoc, List.take_append_of_le_length (by simp; omega)]
  exact List.take_of_length_le (by simp; omega)

/-- A Read has brought n bytes. -/
theorem Mid.step {P : Place} {H : Nat} {w wr : World} {g lb cb nx : Nat} {vc : Value} {us : List Value} {Cs : List (List Int)} {Bs : List Int} {fs i r q : Nat} (h : Mid P H w wr g lb cb nx vc us Cs Bs fs i r q) {cur : List Value} (hcl : cur.length = cb) (hct : cur.take lb = cellsOf Bs) {wr' : World} {n i' r' q' : Nat}
    (hst : St P wr' i' r' q') (hp : i' - (q' - r') = i - (q - r) + n) (hrow : wr'.heap[g]? = some (.cells (splice cur lb (seg P.L (i - (q - r)) n)).toArray 5 (0, 0))) (ho : Only [P.Bb, P.Rb, P.Gb, g] wr wr') (hn : lb + n ≤ cb) :
    Mid P H w wr' g (lb + n) cb nx vc us Cs (Bs ++ (P.L.drop (i - (q - r))).take n) fs i' r' q' := by
  have hgb := h.ownb.lt g rfl
  have hHG := h.HG
  have o2 := hst.o2
  have o3 := hst.o3
  have hL := hst.data.len
  have hi' := hst.iN
  have hcnt := h.count
  have hle : i - (q - r) + n ≤ P.N := by omega
  have hsl : (seg P.L (i - (q - r)) n).length = n := seg_length _ _ _ (by omega)
  have hbl : ((P.L.drop (i - (q - r))).take n).length = n := by simp; omega
  have away : ∀ k, H ≤ k → k ≠ g → wr'.heap[k]? = wr.heap[k]? := fun k hk hkg => ho.block k (by simp; omega)
  have gc : ∀ k, vc.ownBlock = some k → k ≠ g := fun k hk e => by
    rcases own_apart h.ownb h.ownc with hx | hx
    · simp [Value.ownBlock] at hx
    · rw [hk] at hx
      simp [Value.ownBlock] at hx
      exact hx e.symm
  refine ⟨hst, hHG, h.kept.trans (Kept.only ho (fun k hk hm => ?_)), ?_, own_same h.ownc fun k hk => away k (h.ownc.lt k hk).1 (gc k hk), h.lenu, fun j hj => ?_, ?_, h.fsum, ?_, h.cb1, hn, h.cbm, h.nx1, h.nx2, h.nx3, h.kc, ?_⟩
  · simp at hm ⊢
    omega
  · refine ⟨by simp [cellsOf, h.lenb]; omega, .inr ⟨g, cb, _, rfl, hgb.1, hrow, hn, h.cbm, ?_, ?_⟩⟩
    · simp only [List.size_toArray]
      rw [length_splice _ _ _ (by rw [hsl]; omega), hcl, Nat.mul_one]
    · rw [Nat.mul_one]
      show (splice cur lb (seg P.L (i - (q - r)) n)).take (lb + n) = _
      have e := take_splice cur (seg P.L (i - (q - r)) n) lb (by omega)
      rw [hsl] at e
      rw [e, hct]
      simp [cellsOf, seg]
  · obtain ⟨gj, cj, hu, hne, hown⟩ := h.each j hj
    exact ⟨gj, cj, hu, hne, own_same hown fun k hk => away k (hown.lt k hk).1 (own_eq hk ▸ hne)⟩
  · rw [List.length_append, h.lenb, hbl]
  · rw [← List.append_assoc, h.bytes, hp, List.take_add]
  · rw [ho.size]; exact h.Hle

/-- b is full: it becomes a chunk, and a new one is made. -/
theorem Mid.turn {P : Place} {H : Nat} {w wr : World} {g lb cb nx : Nat} {gc cc : Nat} {us : List Value} {Cs : List (List Int)} {Bs : List Int} {fs i r q : Nat} (h : Mid P H w wr g lb cb nx (.slice (some ⟨gc, 0, none⟩) Cs.length cc) us Cs Bs fs i r q) (hfull : cb - lb < cb / 16)
    {o : Obj} {w6 : World} {gc' cc' : Nat} (ho6 : w6.ownsRow H 22 1 (.slice (some ⟨gc', 0, none⟩) (Cs.length + 1) cc') (Cs.length + 1) (us ++ [.slice (some ⟨g, 0, none⟩) lb cb])) (hg6 : (wr.alloc o).grownBy w6 (Value.slice (some ⟨gc, 0, none⟩) Cs.length cc).ownBlock)
    {w7 : World} {cb' : Nat} (ho7 : w7.ownsRow w6.heap.size 5 1 (.slice (some ⟨w6.heap.size, 0, none⟩) 0 cb') 0 []) (hb7 : Below w6.heap.size w6 w7) (hcb : nx ≤ cb') (hcbm : cb' ≤ maxLen) :
    Acc P H w w7 w6.heap.size 0 cb' (nx + nx / 2) (.slice (some ⟨gc', 0, none⟩) (Cs ++ [Bs]).length cc') (us ++ [.slice (some ⟨g, 0, none⟩) lb cb]) (Cs ++ [Bs]) [] (fs + lb) i r q := by
  have hHle := h.Hle
  have hsz6 : wr.heap.size + 1 ≤ w6.heap.size := by have := hg6.size; simpa using this
  have hgcH := (h.ownc.lt gc rfl)
  have b6 : ∀ k, k < wr.heap.size → k ≠ gc → w6.heap[k]? = wr.heap[k]? := fun k hk hne => by
    rw [hg6.block k (by simp; omega) (by simp [Value.ownBlock]; exact hne), Below.heap_alloc _ _ _ hk]
  have b7 : ∀ k, k < wr.heap.size → k ≠ gc → w7.heap[k]? = wr.heap[k]? := fun k hk hne => by
    rw [hb7.block k (by omega), b6 k hk hne]
  have hBel6 : Below H wr w6 := by
    have h1 : Below H wr (wr.alloc o) := (Below.refl _ _).alloc hHle _
    exact h1.grown hg6 (by simp; omega) (fun k hk => own_eq hk ▸ hgcH.1)
  have hBel : Below H wr w7 := hBel6.trans (hb7.mono (by omega))
  have ne5 : ∀ (u : Value) (n : Nat) (xs : List Value), wr.ownsRow H 5 1 u n xs → ∀ k, u.ownBlock = some k → k < wr.heap.size ∧ k ≠ gc := fun u n xs hu k hk => by
    refine ⟨(hu.lt k hk).2, fun e => ?_⟩
    rcases own_apart hu h.ownc with hx | hx
    · rw [hk] at hx; cases hx
    · rw [hk] at hx
      simp [Value.ownBlock] at hx
      exact hx e
  have keep : ∀ (u : Value) (n : Nat) (xs : List Value), wr.ownsRow H 5 1 u n xs → w7.ownsRow H 5 1 u n xs := fun u n xs hu => own_same hu fun k hk => b7 k (ne5 u n xs hu k hk).1 (ne5 u n xs hu k hk).2
  have hlen : (Cs ++ [Bs]).length = Cs.length + 1 := by simp
  have hcb1 := h.cb1
  have hlb := h.lenb
  have hgH := h.ownb.lt g rfl
  have hn1 := h.nx1
  have hn2 := h.nx2
  have hn3 := h.nx3
  have hkc := h.kc
  have hlbc := h.lbc
  refine ⟨⟨h.st.below hBel h.HG, h.HG, h.kept.trans (Kept.below hBel), ownsRow_base ho7 (by omega), ?_, by simp [h.lenu], fun j hj => ?_, rfl, ?_, ?_, by omega, Nat.zero_le _, hcbm, by omega, by omega, by omega, by rw [hlen]; omega, by have := hb7.size; omega⟩, by omega⟩
  · rw [hlen]
    exact own_below ho6 hb7
  · rw [hlen] at hj
    by_cases hjc : j < Cs.length
    · have e1 : (us ++ [Value.slice (some ⟨g, 0, none⟩) lb cb]).getD j .nilIface = us.getD j .nilIface := by
        simp [List.getD, List.getElem?_append_left (show j < us.length by rw [h.lenu]; exact hjc)]
      have e2 : (Cs ++ [Bs]).getD j [] = Cs.getD j [] := by simp [List.getD, List.getElem?_append_left hjc]
      rw [e1, e2]
      obtain ⟨gj, cj, hu, hne, hown⟩ := h.each j hjc
      exact ⟨gj, cj, hu, by have := (hown.lt gj rfl).2; omega, keep _ _ _ hown⟩
    · obtain rfl : j = Cs.length := by omega
      have e1 : (us ++ [Value.slice (some ⟨g, 0, none⟩) lb cb]).getD Cs.length .nilIface = .slice (some ⟨g, 0, none⟩) lb cb := by
        rw [← h.lenu]; simp [List.getD]
      have e2 : (Cs ++ [Bs]).getD Cs.length [] = Bs := by simp [List.getD]
      rw [e1, e2]
      refine ⟨g, cb, by rw [hlb], by omega, ?_⟩
      rw [hlb]
      exact keep _ _ _ h.ownb
  · simp [h.fsum, hlb]
  · have := h.bytes
    simpa using this

/-- A Read at the end: nothing of the call's own has turned. -/
theorem Mid.same {P : Place} {H : Nat} {w wr : World} {g lb cb nx : Nat} {vc : Value} {us : List Value} {Cs : List (List Int)} {Bs : List Int} {fs i r q : Nat} (h : Mid P H w wr g lb cb nx vc us Cs Bs fs i r q) {w3 : World} {i' r' q' : Nat} (hst : St P w3 i' r' q') (hp : i' - (q' - r') = i - (q - r)) (ho : Only [P.Bb] wr w3) :
    Mid P H w w3 g lb cb nx vc us Cs Bs fs i' r' q' := by
  have hHG := h.HG
  have o3 := hst.o3
  have away : ∀ k, H ≤ k → w3.heap[k]? = wr.heap[k]? := fun k hk => ho.block k (by simp; omega)
  refine ⟨hst, hHG, h.kept.trans (Kept.only ho (fun k _ hm => by simp at hm ⊢; exact .inl hm)), own_same h.ownb fun k hk => away k (h.ownb.lt k hk).1, own_same h.ownc fun k hk => away k (h.ownc.lt k hk).1, h.lenu, fun j hj => ?_, h.lenb, h.fsum, by rw [hp]; exact h.bytes, h.cb1, h.lbc, h.cbm, h.nx1, h.nx2, h.nx3, h.kc, by rw [ho.size]; exact h.Hle⟩
  obtain ⟨gj, cj, hu, hne, hown⟩ := h.each j hj
  exact ⟨gj, cj, hu, hne, own_same hown fun k hk => away k (hown.lt k hk).1⟩

theorem Mid.whole {P : Place} {H : Nat} {w wr : World} {g lb cb nx : Nat} {vc : Value} {us : List Value} {Cs : List (List Int)} {Bs : List Int} {fs i r q : Nat} (h : Mid P H w wr g lb cb nx vc us Cs Bs fs i r q) (hend : i - (q - r) = P.N) : Cs.flatten ++ Bs = P.L := by
  rw [h.bytes, hend]
  exact List.take_of_length_le (Nat.le_of_eq h.st.data.len)

theorem cells_own {w : World} {b : Nat} {g n c : Nat} {l : List Int} (h : w.ownsRow b 5 1 (.slice (some ⟨g, 0, none⟩) n c) n (cellsOf l)) : ∀ t u, (cellsOf l)[t]? = some u → w.cell? ((⟨g, 0, none⟩ : Addr).add t) = some u :=
  h.cells (g := g) rfl

theorem Mid.chunkAt {P : Place} {H : Nat} {w wr : World} {g lb cb nx : Nat} {gc cc : Nat} {us : List Value} {Cs : List (List Int)} {Bs : List Int} {fs i r q : Nat} (h : Mid P H w wr g lb cb nx (.slice (some ⟨gc, 0, none⟩) Cs.length cc) us Cs Bs fs i r q) {j : Nat} (hj : j < Cs.length) :
    ∃ gj cj, wr.cell? ⟨gc, j, none⟩ = some (.slice (some ⟨gj, 0, none⟩) (Cs.getD j []).length cj) ∧ gc < wr.heap.size ∧ gj < wr.heap.size ∧ ∀ t u, (cellsOf (Cs.getD j []))[t]? = some u → wr.cell? ((⟨gj, 0, none⟩ : Addr).add t) = some u := by
  obtain ⟨gj, cj, hu, _, hown⟩ := h.each j hj
  refine ⟨gj, cj, ?_, (h.ownc.lt gc rfl).2, (hown.lt gj rfl).2, cells_own hown⟩
  have hj' : j < us.length := by rw [h.lenu]; exact hj
  rw [h.ownc.cellAt j (by omega), ← hu]
  simp [List.getD, hj']

/-- What has gone into 'final' so far. -/
structure Fin (w3 wr : World) (l : List Int) (v : Value) : Prop where
  own : wr.ownsRow w3.heap.size 5 1 v l.length (cellsOf l)
  below : Below w3.heap.size w3 wr

theorem Fin.add {w3 wr w5 : World} {l m : List Int} {v v' : Value} (h : Fin w3 wr l v) (ho : w5.ownsRow w3.heap.size 5 1 v' (l.length + m.length) (cellsOf l ++ cellsOf m)) (hg : wr.grownBy w5 v.ownBlock) : Fin w3 w5 (l ++ m) v' := by
  refine ⟨?_, h.below.grown hg h.below.size (fun k hk => (h.own.lt k hk).1)⟩
  have e : cellsOf (l ++ m) = cellsOf l ++ cellsOf m := by simp [cellsOf]
  rw [e, List.length_append]
  exact ho

theorem flatten_take_succ (Cs : List (List Int)) (j : Nat) (hj : j < Cs.length) : (Cs.take (j + 1)).flatten = (Cs.take j).flatten ++ Cs.getD j [] := by
  rw [List.take_succ_eq_append_getElem hj, List.flatten_append]
  simp [List.getD, hj]

theorem flatten_take_le (Cs : List (List Int)) (j : Nat) : (Cs.take j).flatten.length ≤ Cs.flatten.length := by
  have h : Cs.flatten = (Cs.take j).flatten ++ (Cs.drop j).flatten := by rw [← List.flatten_append, List.take_append_drop]
  rw [h, List.length_append]
  omega

theorem reads_at {w : World} {b : Nat} {v : Value} {l : List Int} {ao : Option Addr} {n cap : Nat} (h : w.ownsRow b 5 1 v l.length (cellsOf l)) (hv : v = .slice ao n cap) (hn : l.length = n) : Reads w ao n cap l := by
  obtain ⟨a1, c1, he, hh⟩ := reads_of_own h
  rw [he] at hv
  simp at hv
  obtain ⟨rfl, _, rfl⟩ := hv
  rw [hn] at hh
  exact hh

/-- No chunk was ever full: b itself is all. -/
theorem Mid.done0 {P : Place} {H : Nat} {w wr : World} {g lb cb nx : Nat} {vc : Value} {us : List Value} {Cs : List (List Int)} {Bs : List Int} {fs i r q : Nat} (h : Mid P H w wr g lb cb nx vc us Cs Bs fs i r q) (hend : i - (q - r) = P.N) (hC : Cs.length = 0) : lb = P.N ∧ Reads wr (some ⟨g, 0, none⟩) P.N cb P.L := by
  obtain rfl : Cs = [] := List.eq_nil_of_length_eq_zero hC
  have hw := h.whole hend
  simp at hw
  have hl := h.lenb
  have hL := h.st.data.len
  have hlN : lb = P.N := by rw [← hl, hw, hL]
  refine ⟨hlN, ?_⟩
  rw [← hw]
  refine reads_at (b := H) (v := .slice (some ⟨g, 0, none⟩) lb cb) (by rw [hl]; exact h.ownb) (by rw [hlN]) (by rw [hl, hlN])

end Go.Proofs.Qxb6612454aDoor
