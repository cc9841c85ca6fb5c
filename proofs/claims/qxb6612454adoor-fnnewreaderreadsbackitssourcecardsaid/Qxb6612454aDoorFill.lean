/-
  (*bufio.Reader).Read WHERE NOTHING IS BUFFERED AND p IS SMALL: it fills its buffer first.
-/
import Derived.Test.Qxb6612454aDoorDirect
namespace Go.Proofs.Qxb6612454aDoor
open Go.RowKit

set_option maxHeartbeats 800000 in
theorem buf_fill_end (Bb Gb Rb M g off m c : Nat) (r : Nat) (lb lr : Int) (aD : Option Addr) (N cD : Nat) (p : Int) (te : TypeId) (ve : Value) (w : World)
    (hB : w.heap[Bb]? = some (.cells (bufRow Gb Rb M r r .nilIface lb lr) 53 (0, 0))) (hR : w.heap[Rb]? = some (.cells #[.slice aD N cD, .int .i64 N, .int .i64 p] 47 (0, 0)))
    (hE : w.cell? ⟨0, 0, none⟩ = some (.iface te ve)) (hB0 : Bb ≠ 0) (hBR : Bb ≠ Rb) (hm : m < M) (hm1 : 0 < m) :
    Calls Tryd.prog 32 #[.pointer (some ⟨Bb, 0, none⟩), .slice (some ⟨g, off, none⟩) m c] w fun e w' => e = .returned (.tuple #[.int .i64 0, .iface te ve]) ∧
      w'.heap[Bb]? = some (.cells (bufRow Gb Rb M 0 0 .nilIface lb lr) 53 (0, 0)) ∧ Only [Bb] w w' := by
  have h0 := c0 hB
  have h2 := c2 hB
  have h3 := c3 hB
  have h4 := c4 hB
  have f2 := cf hB 2
  have f3 := cf hB 3
  have hm0 : ((m : Int) == 0) = false := by simp; omega
  have hrr : ((r : Int) == (r : Int)) = true := by simp
  have hmM : ¬ (M : Int) ≤ (m : Int) := by omega
  go_enter Tryd.func32, Tryd.ntmps32
  go_wp2
  go_quiet (fail)
  have hmr := method_rd Rb
  go_wp2_with fail
  have hBW : (((w.drewN nq).setCell ⟨Bb, 2, none⟩ (.int .i64 0)).setCell ⟨Bb, 3, none⟩ (.int .i64 0)).heap[Bb]? = some (.cells (bufRow Gb Rb M 0 0 .nilIface lb lr) 53 (0, 0)) := s3 (s2 (by exact hB) 0) 0
  have hRW : (((w.drewN nq).setCell ⟨Bb, 2, none⟩ (.int .i64 0)).setCell ⟨Bb, 3, none⟩ (.int .i64 0)).heap[Rb]? = some (.cells #[.slice aD N cD, .int .i64 N, .int .i64 p] 47 (0, 0)) := by
    rw [Below.heap_setCell _ _ _ _ (Ne.symm hBR), Below.heap_setCell _ _ _ _ (Ne.symm hBR)]; exact hR
  have hEW : (((w.drewN nq).setCell ⟨Bb, 2, none⟩ (.int .i64 0)).setCell ⟨Bb, 3, none⟩ (.int .i64 0)).cell? ⟨0, 0, none⟩ = some (.iface te ve) := by
    rw [World.cell?_of_block (Below.heap_setCell _ _ _ _ (Ne.symm hB0)), World.cell?_of_block (Below.heap_setCell _ _ _ _ (Ne.symm hB0))]; exact hE
  have hO : Only [Bb] w (((w.drewN nq).setCell ⟨Bb, 2, none⟩ (.int .i64 0)).setCell ⟨Bb, 3, none⟩ (.int .i64 0)) := (((Only.refl _ _).drewN _).setCell _ _ (by simp)).setCell _ _ (by simp)
  clear h0 h2 h3 h4 f2 f3
  generalize ((w.drewN nq).setCell ⟨Bb, 2, none⟩ (.int .i64 0)).setCell ⟨Bb, 3, none⟩ (.int .i64 0) = W at hBW hRW hEW hO ⊢
  have h0 := c0 hBW
  have h1 := c1 hBW
  have h4 := c4 hBW
  have f4 := cf hBW 4
  have r0 : W.cell? ⟨Rb, 0, none⟩ = some (.slice aD N cD) := by simp [World.cell?, hRW]
  have r1 : W.cell? ⟨Rb, 1, none⟩ = some (.int .i64 N) := by simp [World.cell?, hRW]
  have hks : ∀ (k : Nat) (x : Value), ((W.drewN k).setCell ⟨Bb, 4, none⟩ x).cell? ⟨Bb, 0, none⟩ = some (.slice (some ⟨Gb, 0, none⟩) M M) ∧ ((W.drewN k).setCell ⟨Bb, 4, none⟩ x).cell? ⟨Bb, 1, none⟩ = some (.iface 35 (.pointer (some ⟨Rb, 0, none⟩))) := fun k x =>
    ⟨c0 (s4 (w := W.drewN k) hBW x), c1 (s4 (w := W.drewN k) hBW x)⟩
  go_region_held3 (fun w' => w'.cell? ⟨Bb, 0, none⟩ = some (.slice (some ⟨Gb, 0, none⟩) M M) ∧ w'.cell? ⟨Bb, 1, none⟩ = some (.iface 35 (.pointer (some ⟨Rb, 0, none⟩))))
    (first | (go_keep; done) | (exact hks _ _))
    (first | (go_at_call 31; refine (rd_end Rb aD N cD (some ⟨Gb, 0, none⟩) M M (.iface te ve) _ (by exact r0) (by exact r1) (by exact hEW)).mono ?_; rintro e w1 ⟨rfl, k, rfl⟩))
  go_wp2_with fail
  refine (readErr_any Bb Gb Rb M 0 0 (.iface te ve) lb lr _ (by exact s4 (by exact hBW) _) (.inr ⟨_, _, rfl⟩)).mono ?_
  rintro e w2 ⟨rfl, rfl⟩
  go_wp2
  go_ret2
  refine ⟨rfl, ?_, ?_⟩
  · exact s4 (s4 (by exact hBW) _) _
  · exact ((hO.drewN _).setCell _ _ (by simp)).setCell _ _ (by simp)

/-- What a Read through the buffer leaves: n0 bytes went into it, n of them on to p. -/
structure Filled (w w' : World) (Bb Gb Rb M g off : Nat) (aD : Option Addr) (N cD : Nat) (L : List Int) (cur curG : List Value) (i n0 n : Nat) : Prop where
  br : ∃ lb lr : Int, w'.heap[Bb]? = some (.cells (bufRow Gb Rb M n n0 .nilIface lb lr) 53 (0, 0))
  rd : w'.heap[Rb]? = some (.cells #[.slice aD N cD, .int .i64 (i + n0 : Nat), .int .i64 (-1)] 47 (0, 0))
  buf : w'.heap[Gb]? = some (.cells (splice curG 0 (seg L i n0)).toArray 5 (0, 0))
  row : w'.heap[g]? = some (.cells (splice cur off (seg L i n)).toArray 5 (0, 0))
  only : Only [Bb, Rb, Gb, g] w w'

set_option maxHeartbeats 1600000 in
theorem buf_fill (Bb Gb Rb M g off m c : Nat) (r0 : Nat) (lb lr : Int) (aD : Addr) (N cD : Nat) (L : List Int) (i n0 n : Nat) (p : Int) (cur curG : List Value) (w : World)
    (hB : w.heap[Bb]? = some (.cells (bufRow Gb Rb M r0 r0 .nilIface lb lr) 53 (0, 0))) (hR : w.heap[Rb]? = some (.cells #[.slice (some aD) N cD, .int .i64 i, .int .i64 p] 47 (0, 0)))
    (hD : Reads w (some aD) N cD L) (hDR : aD.block ≠ Rb) (hDB : aD.block ≠ Bb) (hg : w.heap[g]? = some (.cells cur.toArray 5 (0, 0))) (hG : w.heap[Gb]? = some (.cells curG.toArray 5 (0, 0))) (hlG : curG.length = M)
    (hgR : g ≠ Rb) (hgB : g ≠ Bb) (hgG : g ≠ Gb) (hGB : Gb ≠ Bb) (hGR : Gb ≠ Rb) (hBR : Bb ≠ Rb) (hi : i < N) (hN : N ≤ 1048576) (hNc : N ≤ cD) (hfit : off + m ≤ cur.length)
    (hm : m < M) (hm1 : 0 < m) (hM : M ≤ 65536) (hn0 : n0 = min M (N - i)) (hn : n = min m n0) :
    Calls Tryd.prog 32 #[.pointer (some ⟨Bb, 0, none⟩), .slice (some ⟨g, off, none⟩) m c] w fun e w' => e = .returned (.tuple #[.int .i64 n, .nilIface]) ∧
      Filled w w' Bb Gb Rb M g off (some aD) N cD L cur curG i n0 n := by
  have h0 := c0 hB
  have h2 := c2 hB
  have h3 := c3 hB
  have h4 := c4 hB
  have f2 := cf hB 2
  have f3 := cf hB 3
  have hm0 : ((m : Int) == 0) = false := by simp; omega
  have hrr : ((r0 : Int) == (r0 : Int)) = true := by simp
  have hmM : ¬ (M : Int) ≤ (m : Int) := by omega
  have hL := hD.len
  have q1 : 0 < n0 := by omega
  have q2 : i + n0 ≤ N := by omega
  have q3 : n0 ≤ M := by omega
  have HN0 : Hid (n0 = min M (N - i)) := hn0
  have HN : Hid (n = min m (n0 - 0)) := by rw [Nat.sub_zero]; exact hn
  clear hn0 hn
  have q4 : ((n0 : Int) == 0) = false := by simp; omega
  have q5 : ¬ (n0 : Int) < 0 := by omega
  go_enter Tryd.func32, Tryd.ntmps32
  go_wp2
  go_quiet (fail)
  have hmr := method_rd Rb
  go_wp2_with fail
  have hBW : (((w.drewN nq).setCell ⟨Bb, 2, none⟩ (.int .i64 0)).setCell ⟨Bb, 3, none⟩ (.int .i64 0)).heap[Bb]? = some (.cells (bufRow Gb Rb M 0 0 .nilIface lb lr) 53 (0, 0)) := s3 (s2 (by exact hB) 0) 0
  have oth : ∀ k, k ≠ Bb → (((w.drewN nq).setCell ⟨Bb, 2, none⟩ (.int .i64 0)).setCell ⟨Bb, 3, none⟩ (.int .i64 0)).heap[k]? = w.heap[k]? := fun k hk => by
    rw [Below.heap_setCell _ _ _ _ hk, Below.heap_setCell _ _ _ _ hk]; rfl
  have hRW := (oth Rb (Ne.symm hBR)).trans hR
  have hgW := (oth g hgB).trans hg
  have hGW := (oth Gb hGB).trans hG
  have hDW : Reads (((w.drewN nq).setCell ⟨Bb, 2, none⟩ (.int .i64 0)).setCell ⟨Bb, 3, none⟩ (.int .i64 0)) (some aD) N cD L := ⟨hD.len, hD.nilCase, fun a ha j hj => by
    cases ha
    rw [World.cell?_of_block (oth _ (by rw [show (aD.add j).block = aD.block by unfold Addr.add; split <;> rfl]; exact hDB))]
    exact hD.cell _ rfl j hj⟩
  have hO : Only [Bb, Rb, Gb, g] w (((w.drewN nq).setCell ⟨Bb, 2, none⟩ (.int .i64 0)).setCell ⟨Bb, 3, none⟩ (.int .i64 0)) := (((Only.refl _ _).drewN _).setCell _ _ (by simp)).setCell _ _ (by simp)
  clear h0 h2 h3 h4 f2 f3 oth
  generalize ((w.drewN nq).setCell ⟨Bb, 2, none⟩ (.int .i64 0)).setCell ⟨Bb, 3, none⟩ (.int .i64 0) = W at hBW hRW hgW hGW hDW hO ⊢
  have h0 := c0 hBW
  have h1 := c1 hBW
  have h4 := c4 hBW
  have f4 := cf hBW 4
  go_region_held3 (fun w' => w'.cell? ⟨Bb, 0, none⟩ = some (.slice (some ⟨Gb, 0, none⟩) M M) ∧ w'.cell? ⟨Bb, 1, none⟩ = some (.iface 35 (.pointer (some ⟨Rb, 0, none⟩))))
    (first | (go_keep; done) | (exact ⟨c0 hB1, c1 hB1⟩) | (exact ⟨c0 (s4 hB1 _), c1 (s4 hB1 _)⟩))
    (first | (go_at_call 31; refine (rd_some Rb aD N cD L i n0 p Gb 0 M M curG _ (by exact hRW) ⟨hDW.len, hDW.nilCase, by exact hDW.cell⟩ hDR (by exact hGW) hGR hi hN hNc (by omega) HN0).mono ?_; rintro e w1 ⟨rfl, hGot⟩; have hB1 : w1.heap[Bb]? = some (.cells (bufRow Gb Rb M 0 0 .nilIface lb lr) 53 (0, 0)) := (hGot.only.block Bb (by simp [hBR, Ne.symm hGB])).trans hBW; have h41 := c4 hB1; have f41 := cf hB1 4))
  have hB2 := s4 hB1 .nilIface
  have oth : ∀ k, k ≠ Bb → (w1.setCell ⟨Bb, 4, none⟩ .nilIface).heap[k]? = w1.heap[k]? := fun k hk => Below.heap_setCell _ _ _ _ hk
  have hR2 := (oth Rb (Ne.symm hBR)).trans hGot.rd
  have hG2 := (oth Gb hGB).trans hGot.row
  have hg2 := (oth g hgB).trans ((hGot.only.block g (by simp [hgR, hgG])).trans hgW)
  have hO2 : Only [Bb, Rb, Gb, g] w (w1.setCell ⟨Bb, 4, none⟩ .nilIface) := ((hO.drew.trans (hGot.only.mono (by simp))).setCell _ _ (by simp))
  clear hGot h41 f41 h0 h1 h4 f4 oth
  generalize w1.setCell ⟨Bb, 4, none⟩ .nilIface = W2 at hB2 hR2 hG2 hg2 hO2 ⊢
  have h3 := c3 hB2
  have f3 := cf hB2 3
  have h0 := c0 hB2
  go_wp2_with fail
  have hB3 := s3 hB2 n0
  have oth : ∀ k, k ≠ Bb → (W2.setCell ⟨Bb, 3, none⟩ (.int .i64 n0)).heap[k]? = W2.heap[k]? := fun k hk => Below.heap_setCell _ _ _ _ hk
  have hR3 := (oth Rb (Ne.symm hBR)).trans hR2
  have hG3 := (oth Gb hGB).trans hG2
  have hg3 := (oth g hgB).trans hg2
  have hO3 : Only [Bb, Rb, Gb, g] w (W2.setCell ⟨Bb, 3, none⟩ (.int .i64 n0)) := hO2.setCell _ _ (by simp)
  have hsl : (seg L i n0).length = n0 := seg_length L i n0 (by omega)
  have hBuf : ∀ r, r = 0 → Buffered (W2.setCell ⟨Bb, 3, none⟩ (.int .i64 n0)) Bb Gb Rb M g off m L cur (splice curG 0 (seg L i n0)) i r n0 lb lr := by
    rintro r rfl
    refine ⟨hB3, hG3, hg3, fun j hj => ?_, by rw [length_splice _ _ _ (by rw [hsl]; omega), hlG], q1, q3, hfit, by omega, hgB, hgG, hGB⟩
    rw [splice_at _ _ _ _ (Nat.zero_le _) (by rw [hsl]; omega), seg_at L i n0 j (by omega) (by omega)]
  obtain ⟨r, hr⟩ : ∃ r : Nat, r = 0 := ⟨0, rfl⟩
  have hBr := hBuf r hr
  have HR0 : Hid (r = 0) := hr
  have hn : n = min m (n0 - r) := by rw [hr]; exact HN
  obtain ⟨curG1, hc1⟩ : ∃ c, c = splice curG 0 (seg L i n0) := ⟨_, rfl⟩
  have HC : Hid (curG1 = splice curG 0 (seg L i n0)) := hc1
  rw [← hc1] at hBr hG3
  clear hBuf hr hc1 hB3 hg3 oth h3 f3 h0 hB2 hR2 hG2 hg2 hO2 hB1 hsl
  generalize W2.setCell ⟨Bb, 3, none⟩ (.int .i64 n0) = W at hBr hR3 hG3 hO3 ⊢
  have hB := hBr
  clear hBr
  have hrq := hB.rq
  have hqM := hB.qM
  have hnn : (seg L i n).length = n := seg_length L i n (by have := hB.inL; omega)
  have hmn : (seg L i n).length = Nat.min (n0 - r) m := by rw [hnn, hn, Nat.min_comm]
  have hff : off + (seg L i n).length ≤ cur.length := by rw [hnn]; have := hB.fit; omega
  have hGW := hB.buf
  have hsrc : ∀ j v, (seg L i n)[j]? = some v → W.drew.cell? ((⟨Gb, r, none⟩ : Addr).add j) = some v := fun j v hv => by
    have hj : j < n := by have := (List.getElem?_eq_some_iff.1 hv).1; omega
    rw [seg_at L i n j hj (by have := hB.inL; omega)] at hv
    rw [← hv, Addr.add_lit]
    show W.cell? _ = _
    rw [cell_of_row W Gb (r + j) _ 5 _ hGW]
    simpa using hB.bytes j (by omega)
  have h0 := c0 hB.br
  have h2 := c2 hB.br
  have h3 := c3 hB.br
  have hgD : W.drew.heap[g]? = some (.cells cur.toArray 5 (0, 0)) := hB.row
  have hb2 : ∀ cs, (W.drew.setRow g cs).heap[Bb]? = some (.cells (bufRow Gb Rb M r n0 .nilIface lb lr) 53 (0, 0)) := fun cs => (setRow_other W.drew g Bb cs (Ne.symm hB.gB)).trans hB.br
  have hkeep : ∀ cs, (W.drew.setRow g cs).cell? ⟨Bb, 0, none⟩ = some (.slice (some ⟨Gb, 0, none⟩) M M) ∧ (W.drew.setRow g cs).cell? ⟨Bb, 2, none⟩ = some (.int .i64 r) ∧ (W.drew.setRow g cs).cell? ⟨Bb, 3, none⟩ = some (.int .i64 n0) := fun cs =>
    ⟨c0 (hb2 cs), c2 (hb2 cs), c3 (hb2 cs)⟩
  have hn1 : n ≤ n0 - r := by omega
  have hn2 : 0 < n := by omega
  clear hn
  have b0 : (0 : Int) ≤ (r : Int) := by omega
  have b1 : (r : Int) ≤ (n0 : Int) := by omega
  have b2 : (n0 : Int) ≤ (M : Int) := by omega
  have b3 : ¬ M = r := by omega
  go_region_held3 (fun w' => w'.cell? ⟨Bb, 0, none⟩ = some (.slice (some ⟨Gb, 0, none⟩) M M) ∧ w'.cell? ⟨Bb, 2, none⟩ = some (.int .i64 r) ∧ w'.cell? ⟨Bb, 3, none⟩ = some (.int .i64 n0))
    (first | (go_keep; done) | (exact hkeep _))
    (first | (refine step_copy_at (by rfl) _ _ _ _ (by rfl) 5 Tryd.underlying22 size5 g off m c ⟨Gb, r, none⟩ (n0 - r) (M - r) (by rfl) (by rfl) cur 5 hgD (seg L i n) n hnn hmn hsrc hff (seg_one L i n) ?_))
  have hbr2 := hb2 (splice cur off (seg L i n)).toArray
  have hrow2 : (W.drew.setRow g (splice cur off (seg L i n)).toArray).heap[g]? = some (.cells (splice cur off (seg L i n)).toArray 5 (0, 0)) := setRow_heap W.drew g _ _ 5 _ hgD
  have hbuf2 : (W.drew.setRow g (splice cur off (seg L i n)).toArray).heap[Gb]? = some (.cells curG1.toArray 5 (0, 0)) := (setRow_other W.drew g Gb _ (Ne.symm hB.gG)).trans hGW
  have ho2 : Only [Bb, g] W (W.drew.setRow g (splice cur off (seg L i n)).toArray) := ((Only.refl _ _).drew).setRow _ _ (by simp)
  clear hkeep hb2 hsrc hgD hGW h0 h2 h3 hff hmn
  generalize W.drew.setRow g (splice cur off (seg L i n)).toArray = W2 at hbr2 hrow2 hbuf2 ho2 ⊢
  have h2 := c2 hbr2
  have f2 := cf hbr2 2
  have hb4 : (r : Int) + (n : Int) ≤ 65536 := by omega
  go_wp2
  obtain ⟨u, hu⟩ : ∃ u, r + n = u + 1 := ⟨r + n - 1, by omega⟩
  have HU : Hid (r + n = u + 1) := hu
  have e : Value.int .i64 ((r : Int) + (n : Int)) = .int .i64 ((u : Int) + 1) := by
    have : (r : Int) + (n : Int) = (u : Int) + 1 := by omega
    rw [this]
  have hbr3 : (W2.setCell ⟨Bb, 2, none⟩ (.int .i64 ((r : Int) + (n : Int)))).heap[Bb]? = some (.cells (bufRow Gb Rb M (u + 1) n0 .nilIface lb lr) 53 (0, 0)) := by
    rw [e]; exact s2 hbr2 (u + 1)
  have hrow3 : (W2.setCell ⟨Bb, 2, none⟩ (.int .i64 ((r : Int) + (n : Int)))).heap[g]? = some (.cells (splice cur off (seg L i n)).toArray 5 (0, 0)) := (Below.heap_setCell _ _ _ _ hB.gB).trans hrow2
  have hbuf3 : (W2.setCell ⟨Bb, 2, none⟩ (.int .i64 ((r : Int) + (n : Int)))).heap[Gb]? = some (.cells curG1.toArray 5 (0, 0)) := (Below.heap_setCell _ _ _ _ hB.GB).trans hbuf2
  have ho3 : Only [Bb, g] W (W2.setCell ⟨Bb, 2, none⟩ (.int .i64 ((r : Int) + (n : Int)))) := ho2.setCell _ _ (by simp)
  have hur : u - r < n0 - r := by omega
  have huM : u < M := by have := hB.qM; omega
  have hru : r ≤ u := by omega
  clear h2 f2 hu e hbr2 hrow2 hbuf2 ho2
  generalize W2.setCell ⟨Bb, 2, none⟩ (.int .i64 ((r : Int) + (n : Int))) = W3 at hbr3 hrow3 hbuf3 ho3 ⊢
  have h0 := c0 hbr3
  have h2 : W3.cell? ⟨Bb, 2, none⟩ = some (.int .i64 ((u : Int) + 1)) := c2 hbr3
  have f5 := cf hbr3 5
  have h5 := c5 hbr3
  have hx : W3.cell? ⟨Gb, u, none⟩ = some (.int .u8 (L.getD (i + (u - r)) 0)) := by
    rw [cell_of_row W3 Gb u _ 5 _ hbuf3]
    have := hB.bytes (u - r) hur
    rw [show r + (u - r) = u by omega] at this
    simpa using this
  generalize L.getD (i + (u - r)) 0 = x at hx
  have hk5 : ∀ y : Int, (W3.setCell ⟨Bb, 5, none⟩ (.int .i64 y)).drew.cell? ⟨Bb, 0, none⟩ = some (.slice (some ⟨Gb, 0, none⟩) M M) ∧ (W3.setCell ⟨Bb, 5, none⟩ (.int .i64 y)).drew.cell? ⟨Bb, 2, none⟩ = some (.int .i64 ((u : Int) + 1)) ∧ (W3.setCell ⟨Bb, 5, none⟩ (.int .i64 y)).drew.cell? ⟨Gb, u, none⟩ = some (.int .u8 x) := fun y =>
    ⟨c0 (s5 hbr3 y), c2 (s5 hbr3 y), (World.cell?_of_block (Below.heap_setCell _ _ _ _ hB.GB)).trans hx⟩
  have u0 : (0 : Int) ≤ (u : Int) := by omega
  have u1 : (u : Int) < (M : Int) := by omega
  have u2 : IntKind.i64.wrap (u : Int) = (u : Int) := by rw [IntKind.wrap_i64]; omega
  have u3 : IntKind.i64.wrap ((u : Int) + 1 - 1) = (u : Int) := by rw [IntKind.wrap_i64]; omega
  go_region_held3 (fun w' => w'.cell? ⟨Bb, 0, none⟩ = some (.slice (some ⟨Gb, 0, none⟩) M M) ∧ w'.cell? ⟨Bb, 2, none⟩ = some (.int .i64 ((u : Int) + 1)) ∧ w'.cell? ⟨Gb, u, none⟩ = some (.int .u8 x))
    (first | (go_keep; done) | (exact hk5 _))
    (fail)
  have hbr4 := s5 hbr3 (IntKind.i64.wrap x)
  have hrow4 : (W3.setCell ⟨Bb, 5, none⟩ (.int .i64 (IntKind.i64.wrap x))).heap[g]? = some (.cells (splice cur off (seg L i n)).toArray 5 (0, 0)) := (Below.heap_setCell _ _ _ _ hB.gB).trans hrow3
  have ho4 : Only [Bb, g] W (W3.setCell ⟨Bb, 5, none⟩ (.int .i64 (IntKind.i64.wrap x))).drew := (ho3.setCell _ _ (by simp)).drew
  have hbr4d : (W3.setCell ⟨Bb, 5, none⟩ (.int .i64 (IntKind.i64.wrap x))).drew.heap[Bb]? = _ := hbr4
  have hrow4d : (W3.setCell ⟨Bb, 5, none⟩ (.int .i64 (IntKind.i64.wrap x))).drew.heap[g]? = _ := hrow4
  clear hk5 hbr4 hrow4 h0 h2 h5 f5 hx hbr3 hrow3 hbuf3 ho3
  generalize (W3.setCell ⟨Bb, 5, none⟩ (.int .i64 (IntKind.i64.wrap x))).drew = W4 at hbr4d hrow4d ho4 ⊢
  have h6 := c6 hbr4d
  have f6 := cf hbr4d 6
  have X : Hid (Copied W (W4.setCell ⟨Bb, 6, none⟩ (.int .i64 (-1))) Bb Gb Rb M g off L cur i r n0 n) := by
    refine ⟨⟨IntKind.i64.wrap x, -1, ?_⟩, (Below.heap_setCell _ _ _ _ hB.gB).trans hrow4d, ho4.setCell _ _ (by simp)⟩
    rw [HU.out]
    exact s6 hbr4d (-1)
  clear hbr4d hrow4d ho4
  go_wp2
  go_ret2
  have Y := X.out
  refine ⟨rfl, ?_, (Y.only.block Rb (by simp [Ne.symm hBR, Ne.symm hgR])).trans hR3, ?_, Y.row, hO3.trans (Y.only.mono (by simp))⟩
  · obtain ⟨lb', lr', hh⟩ := Y.br
    rw [HR0.out, Nat.zero_add] at hh
    exact ⟨lb', lr', hh⟩
  · rw [← HC.out]
    exact (Y.only.block Gb (by simp [hGB, Ne.symm hgG])).trans hG3

end Go.Proofs.Qxb6612454aDoor
