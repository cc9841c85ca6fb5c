/-
  THE STATE of a bufio.Reader over a bytes.Reader, and what one Read does to it: two contracts.
-/
import Derived.Test.Qxb6612454aDoorFill
namespace Go.Proofs.Qxb6612454aDoor
open Go.RowKit

/-- Where things lie, and what does not turn. -/
structure Place where
  Bb : Nat
  Gb : Nat
  Rb : Nat
  M : Nat
  aD : Option Addr
  N : Nat
  cD : Nat
  L : List Int
  te : TypeId
  ve : Value

/-- i: bytes taken out of the data; r, q: the buffer's window. -/
structure St (P : Place) (w : World) (i r q : Nat) : Prop where
  br : ∃ lb lr : Int, w.heap[P.Bb]? = some (.cells (bufRow P.Gb P.Rb P.M r q .nilIface lb lr) 53 (0, 0))
  rd : ∃ p : Int, w.heap[P.Rb]? = some (.cells #[.slice P.aD P.N P.cD, .int .i64 i, .int .i64 p] 47 (0, 0))
  buf : ∃ curG : List Value, w.heap[P.Gb]? = some (.cells curG.toArray 5 (0, 0)) ∧ curG.length = P.M ∧ ∀ j, j < q - r → curG[r + j]? = some (.int .u8 (P.L.getD (i - (q - r) + j) 0))
  data : Reads w P.aD P.N P.cD P.L
  dlt : ∀ a, P.aD = some a → a.block < P.Rb ∧ P.N ≤ P.cD
  eof : w.cell? ⟨0, 0, none⟩ = some (.iface P.te P.ve)
  o1 : 0 < P.Rb
  o2 : P.Rb < P.Bb
  o3 : P.Bb < P.Gb
  rq : r ≤ q
  qM : q ≤ P.M
  iN : i ≤ P.N
  qi : q - r ≤ i
  m16 : 16 ≤ P.M
  m64 : P.M ≤ 65536
  n20 : P.N ≤ 1048576

theorem block_add (a : Addr) (j : Nat) : (a.add j).block = a.block := by unfold Addr.add; split <;> rfl

theorem Reads.only {ks : List Nat} {w w' : World} {ao : Option Addr} {n cap : Nat} {l : List Int} (h : Reads w ao n cap l) (ho : Only ks w w') (hk : ∀ a, ao = some a → a.block ∉ ks) : Reads w' ao n cap l :=
  ⟨h.len, h.nilCase, fun a ha j hj => by
    rw [World.cell?_of_block (ho.block _ (by rw [block_add]; exact hk a ha))]
    exact h.cell a ha j hj⟩

/-- The parts of the state that a Read does not touch. -/
theorem St.rest {P : Place} {w w' : World} {i r q i' r' q' : Nat} (h : St P w i r q) {g : Nat} (hg : P.Gb < g) (ho : Only [P.Bb, P.Rb, P.Gb, g] w w')
    (br : ∃ lb lr : Int, w'.heap[P.Bb]? = some (.cells (bufRow P.Gb P.Rb P.M r' q' .nilIface lb lr) 53 (0, 0)))
    (rd : ∃ p : Int, w'.heap[P.Rb]? = some (.cells #[.slice P.aD P.N P.cD, .int .i64 i', .int .i64 p] 47 (0, 0)))
    (buf : ∃ curG : List Value, w'.heap[P.Gb]? = some (.cells curG.toArray 5 (0, 0)) ∧ curG.length = P.M ∧ ∀ j, j < q' - r' → curG[r' + j]? = some (.int .u8 (P.L.getD (i' - (q' - r') + j) 0)))
    (rq : r' ≤ q') (qM : q' ≤ P.M) (iN : i' ≤ P.N) (qi : q' - r' ≤ i') : St P w' i' r' q' := by
  have h1 := h.o1
  have h2 := h.o2
  have h3 := h.o3
  refine ⟨br, rd, buf, h.data.only ho fun a ha => ?_, h.dlt, ?_, h1, h2, h3, rq, qM, iN, qi, h.m16, h.m64, h.n20⟩
  · have := (h.dlt a ha).1
    simp
    omega
  · rw [World.cell?_of_block (ho.block 0 (by simp; omega))]
    exact h.eof

/-- At the end: io.EOF. -/
theorem read_end (P : Place) (w : World) (i r q g off m c : Nat) (h : St P w i r q) (hpos : i - (q - r) = P.N) (hg : P.Gb < g) (hm : 0 < m) :
    Calls Tryd.prog 32 #[.pointer (some ⟨P.Bb, 0, none⟩), .slice (some ⟨g, off, none⟩) m c] w fun e w' => e = .returned (.tuple #[.int .i64 0, .iface P.te P.ve]) ∧
      ∃ r', St P w' i r' r' ∧ Only [P.Bb] w w' := by
  have h1 := h.o1
  have h2 := h.o2
  have h3 := h.o3
  have hiN := h.iN
  have hqi := h.qi
  have hrq := h.rq
  have hqM := h.qM
  obtain ⟨lb, lr, hB⟩ := h.br
  obtain ⟨p, hR⟩ := h.rd
  obtain ⟨curG, hG, hlG, _⟩ := h.buf
  obtain rfl : r = q := by
    by_cases hz : P.N = 0
    · omega
    · omega
  obtain rfl : i = P.N := by omega
  have keep : ∀ w' r', Only [P.Bb] w w' → w'.heap[P.Bb]? = some (.cells (bufRow P.Gb P.Rb P.M r' r' .nilIface lb lr) 53 (0, 0)) → r' ≤ P.M → St P w' P.N r' r' := fun w' r' ho hb hr =>
    h.rest hg (ho.mono (by simp)) ⟨lb, lr, hb⟩ ⟨p, (ho.block _ (by simp; omega)).trans hR⟩ ⟨curG, (ho.block _ (by simp; omega)).trans hG, hlG, fun j hj => by omega⟩ (Nat.le_refl _) hr (Nat.le_refl _) (by omega)
  by_cases hmM : P.M ≤ m
  · refine (buf_direct_end P.Bb P.Gb P.Rb P.M g off m c r lb lr P.aD P.N P.cD p P.te P.ve w hB hR h.eof hmM h.m16).mono fun e w' ⟨he, hb, ho⟩ => ⟨he, r, keep w' r ho hb hqM, ho⟩
  · refine (buf_fill_end P.Bb P.Gb P.Rb P.M g off m c r lb lr P.aD P.N P.cD p P.te P.ve w hB hR h.eof (by omega) (by omega) (by omega) hm).mono fun e w' ⟨he, hb, ho⟩ => ⟨he, 0, keep w' 0 ho hb (Nat.zero_le _), ho⟩

/-- Elsewhere: at least one byte more. -/
theorem read_some (P : Place) (w : World) (i r q g off m c : Nat) (cur : List Value) (h : St P w i r q) (hpos : i - (q - r) < P.N) (hg : P.Gb < g) (hm : 0 < m)
    (hrow : w.heap[g]? = some (.cells cur.toArray 5 (0, 0))) (hfit : off + m ≤ cur.length) :
    Calls Tryd.prog 32 #[.pointer (some ⟨P.Bb, 0, none⟩), .slice (some ⟨g, off, none⟩) m c] w fun e w' => ∃ n i' r' q' : Nat, e = .returned (.tuple #[.int .i64 n, .nilIface]) ∧ 0 < n ∧ n ≤ m ∧
      St P w' i' r' q' ∧ i' - (q' - r') = i - (q - r) + n ∧ w'.heap[g]? = some (.cells (splice cur off (seg P.L (i - (q - r)) n)).toArray 5 (0, 0)) ∧ Only [P.Bb, P.Rb, P.Gb, g] w w' := by
  have h1 := h.o1
  have h2 := h.o2
  have h3 := h.o3
  have hiN := h.iN
  have hqi := h.qi
  have hrq := h.rq
  have hqM := h.qM
  have h16 := h.m16
  have hL := h.data.len
  obtain ⟨lb, lr, hB⟩ := h.br
  obtain ⟨p, hR⟩ := h.rd
  obtain ⟨curG, hG, hlG, hbytes⟩ := h.buf
  by_cases hlt : r < q
  · have hBuf : Buffered w P.Bb P.Gb P.Rb P.M g off m P.L cur curG (i - (q - r)) r q lb lr :=
      ⟨hB, hG, hrow, hbytes, hlG, hlt, hqM, hfit, by omega, by omega, by omega, by omega⟩
    refine (buf_copy P.Bb P.Gb P.Rb P.M g off m c P.L cur curG (i - (q - r)) r q (min m (q - r)) lb lr w hBuf hm rfl h.m64).mono fun e w' ⟨he, hc⟩ => ?_
    have ho := hc.only
    refine ⟨min m (q - r), i, r + min m (q - r), q, he, by omega, by omega, ?_, by omega, hc.row, ho.mono (by simp)⟩
    refine h.rest hg (ho.mono (by simp)) hc.br ⟨p, (ho.block _ (by simp; omega)).trans hR⟩ ⟨curG, (ho.block _ (by simp; omega)).trans hG, hlG, fun j hj => ?_⟩ (by omega) hqM hiN (by omega)
    have := hbytes (min m (q - r) + j) (by omega)
    rw [show r + min m (q - r) + j = r + (min m (q - r) + j) by omega, this]
    congr 3
    omega
  · obtain rfl : r = q := by omega
    have hz : i - (r - r) = i := by omega
    rw [hz] at hpos ⊢
    cases haD : P.aD with
    | none => have := (h.data.nilCase haD).1; omega
    | some a =>
      have hD := h.data
      have hda := h.dlt a haD
      rw [haD] at hD hR
      by_cases hmM : P.M ≤ m
      · refine (buf_direct P.Bb P.Gb P.Rb P.M g off m c r lb lr a P.N P.cD P.L i (min m (P.N - i)) p cur w hB hR hD (by omega) hrow (by omega) (by omega) (by omega) hpos h.n20 hda.2 hfit hmM h16 rfl).mono fun e w' ⟨he, hs⟩ => ?_
        have ho := hs.only
        refine ⟨min m (P.N - i), i + min m (P.N - i), r, r, he, by omega, by omega, ?_, by omega, hs.row, ho.mono (by simp)⟩
        exact h.rest hg (ho.mono (by simp)) hs.br ⟨-1, by rw [haD]; exact hs.rd⟩ ⟨curG, (ho.block _ (by simp; omega)).trans hG, hlG, fun j hj => by omega⟩ (Nat.le_refl _) hqM (by omega) (by omega)
      · refine (buf_fill P.Bb P.Gb P.Rb P.M g off m c r lb lr a P.N P.cD P.L i (min P.M (P.N - i)) (min m (min P.M (P.N - i))) p cur curG w hB hR hD (by omega) (by omega) hrow hG hlG (by omega) (by omega) (by omega) (by omega) (by omega) (by omega) hpos h.n20 hda.2 hfit (by omega) hm h.m64 rfl rfl).mono fun e w' ⟨he, hs⟩ => ?_
        have ho := hs.only
        have hsl : (seg P.L i (min P.M (P.N - i))).length = min P.M (P.N - i) := seg_length _ _ _ (by omega)
        refine ⟨min m (min P.M (P.N - i)), i + min P.M (P.N - i), min m (min P.M (P.N - i)), min P.M (P.N - i), he, by omega, by omega, ?_, by omega, hs.row, ho⟩
        refine h.rest hg ho hs.br ⟨-1, by rw [haD]; exact hs.rd⟩ ⟨_, hs.buf, by rw [length_splice _ _ _ (by rw [hsl]; omega), hlG], fun j hj => ?_⟩ (by omega) (by omega) (by omega) (by omega)
        have e := splice_at curG (seg P.L i (min P.M (P.N - i))) 0 (min m (min P.M (P.N - i)) + j) (Nat.zero_le _) (by rw [hsl]; omega)
        rw [Nat.zero_add] at e
        rw [e, seg_at _ _ _ _ (by omega) (by omega)]
        congr 3
        omega

end Go.Proofs.Qxb6612454aDoor
