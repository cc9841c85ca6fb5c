/-
  (*bufio.Reader).Read WHERE NOTHING IS BUFFERED AND p IS LARGE: it reads straight into p.
-/
import Derived.Test.Qxb6612454aDoorBuf
namespace Go.Proofs.Qxb6612454aDoor
open Go.RowKit

theorem method_rd (Rb : Nat) (w : World) : (method 186 35 (.pointer (some ⟨Rb, 0, none⟩)) "Read").run Tryd.prog w = .ok (31, .pointer (some ⟨Rb, 0, none⟩)) w := by kernel_rfl

set_option maxHeartbeats 800000 in
theorem readErr_any (Bb Gb Rb M r q : Nat) (err : Value) (lb lr : Int) (w : World) (h : w.heap[Bb]? = some (.cells (bufRow Gb Rb M r q err lb lr) 53 (0, 0))) (he : err = .nilIface ∨ ∃ t v, err = .iface t v) :
    Calls Tryd.prog 35 #[.pointer (some ⟨Bb, 0, none⟩)] w fun e w' => e = .returned err ∧ w.setCell ⟨Bb, 4, none⟩ .nilIface = w' := by
  have h4 := c4 h
  have f4 := cf h 4
  rcases he with rfl | ⟨t, v, rfl⟩
  · go_enter Tryd.func35, Tryd.ntmps35
    go_wp2
    go_ret
    exact ⟨rfl, rfl⟩
  · go_enter Tryd.func35, Tryd.ntmps35
    go_wp2
    go_ret
    exact ⟨rfl, rfl⟩

set_option maxHeartbeats 800000 in
theorem buf_direct_end (Bb Gb Rb M g off m c : Nat) (r : Nat) (lb lr : Int) (aD : Option Addr) (N cD : Nat) (p : Int) (te : TypeId) (ve : Value) (w : World)
    (hB : w.heap[Bb]? = some (.cells (bufRow Gb Rb M r r .nilIface lb lr) 53 (0, 0))) (hR : w.heap[Rb]? = some (.cells #[.slice aD N cD, .int .i64 N, .int .i64 p] 47 (0, 0)))
    (hE : w.cell? ⟨0, 0, none⟩ = some (.iface te ve)) (hm : M ≤ m) (hM : 16 ≤ M) :
    Calls Tryd.prog 32 #[.pointer (some ⟨Bb, 0, none⟩), .slice (some ⟨g, off, none⟩) m c] w fun e w' => e = .returned (.tuple #[.int .i64 0, .iface te ve]) ∧
      w'.heap[Bb]? = some (.cells (bufRow Gb Rb M r r .nilIface lb lr) 53 (0, 0)) ∧ Only [Bb] w w' := by
  have h0 := c0 hB
  have h1 := c1 hB
  have h2 := c2 hB
  have h3 := c3 hB
  have h4 := c4 hB
  have f4 := cf hB 4
  have hm0 : ((m : Int) == 0) = false := by simp; omega
  have hrr : ((r : Int) == (r : Int)) = true := by simp
  have hmM : (M : Int) ≤ (m : Int) := by omega
  go_enter Tryd.func32, Tryd.ntmps32
  go_wp2
  go_quiet (fail)
  have hmr := method_rd Rb
  go_wp2_with fail
  have r0 : w.cell? ⟨Rb, 0, none⟩ = some (.slice aD N cD) := by simp [World.cell?, hR]
  have r1 : w.cell? ⟨Rb, 1, none⟩ = some (.int .i64 N) := by simp [World.cell?, hR]
  refine (rd_end Rb aD N cD (some ⟨g, off, none⟩) m c (.iface te ve) _ (by exact r0) (by exact r1) (by exact hE)).mono ?_
  rintro e w1 ⟨rfl, k, rfl⟩
  go_wp2_with fail
  refine (readErr_any Bb Gb Rb M r r (.iface te ve) lb lr _ (by exact s4 (by exact hB) _) (.inr ⟨_, _, rfl⟩)).mono ?_
  rintro e w2 ⟨rfl, rfl⟩
  go_wp2
  go_ret2
  refine ⟨rfl, ?_, ?_⟩
  · exact s4 (s4 (by exact hB) _) _
  · exact (((Only.refl _ _).drewN _).setCell _ _ (by simp)).setCell _ _ (by simp)

/-- What a Read straight into p leaves. -/
structure Straight (w w' : World) (Bb Gb Rb M r g off : Nat) (aD : Option Addr) (N cD : Nat) (L : List Int) (cur : List Value) (i n : Nat) : Prop where
  br : ∃ lb lr : Int, w'.heap[Bb]? = some (.cells (bufRow Gb Rb M r r .nilIface lb lr) 53 (0, 0))
  rd : w'.heap[Rb]? = some (.cells #[.slice aD N cD, .int .i64 (i + n : Nat), .int .i64 (-1)] 47 (0, 0))
  row : w'.heap[g]? = some (.cells (splice cur off (seg L i n)).toArray 5 (0, 0))
  only : Only [Bb, Rb, g] w w'

theorem splice_at {α : Type} (cur cs : List α) (off j : Nat) (hoff : off ≤ cur.length) (hj : j < cs.length) : (splice cur off cs)[off + j]? = cs[j]? := by
  unfold splice
  rw [List.getElem?_append_right (by simp; omega), List.getElem?_append_left (by simp; omega)]
  congr 1
  simp
  omega

set_option maxHeartbeats 800000 in
theorem buf_direct (Bb Gb Rb M g off m c : Nat) (r : Nat) (lb lr : Int) (aD : Addr) (N cD : Nat) (L : List Int) (i n : Nat) (p : Int) (cur : List Value) (w : World)
    (hB : w.heap[Bb]? = some (.cells (bufRow Gb Rb M r r .nilIface lb lr) 53 (0, 0))) (hR : w.heap[Rb]? = some (.cells #[.slice (some aD) N cD, .int .i64 i, .int .i64 p] 47 (0, 0)))
    (hD : Reads w (some aD) N cD L) (hDR : aD.block ≠ Rb) (hg : w.heap[g]? = some (.cells cur.toArray 5 (0, 0))) (hgR : g ≠ Rb) (hgB : g ≠ Bb) (hBR : Bb ≠ Rb) (hi : i < N) (hN : N ≤ 1048576) (hNc : N ≤ cD) (hfit : off + m ≤ cur.length)
    (hm : M ≤ m) (hM : 16 ≤ M) (hn : n = min m (N - i)) :
    Calls Tryd.prog 32 #[.pointer (some ⟨Bb, 0, none⟩), .slice (some ⟨g, off, none⟩) m c] w fun e w' => e = .returned (.tuple #[.int .i64 n, .nilIface]) ∧
      Straight w w' Bb Gb Rb M r g off (some aD) N cD L cur i n := by
  have h0 := c0 hB
  have h1 := c1 hB
  have h2 := c2 hB
  have h3 := c3 hB
  have h4 := c4 hB
  have hm0 : ((m : Int) == 0) = false := by simp; omega
  have hrr : ((r : Int) == (r : Int)) = true := by simp
  have hmM : (M : Int) ≤ (m : Int) := by omega
  have hn0 : 0 < n := by omega
  have hnm : n ≤ m := by omega
  have hnN : i + n ≤ N := by omega
  have HN : Hid (n = min m (N - i)) := hn
  clear hn
  have hL := hD.len
  obtain ⟨u, rfl⟩ : ∃ u, n = u + 1 := ⟨n - 1, by omega⟩
  go_enter Tryd.func32, Tryd.ntmps32
  go_wp2
  go_quiet (fail)
  have hmr := method_rd Rb
  go_wp2_with fail
  refine (rd_some Rb aD N cD L i (u + 1) p g off m c cur _ (by exact hR) ⟨hD.len, hD.nilCase, by exact hD.cell⟩ hDR (by exact hg) hgR hi hN hNc hfit HN).mono ?_
  rintro e w1 ⟨rfl, hG⟩
  have hB1 : w1.heap[Bb]? = some (.cells (bufRow Gb Rb M r r .nilIface lb lr) 53 (0, 0)) := (hG.only.block Bb (by simp [hBR, Ne.symm hgB])).trans hB
  have h4 := c4 hB1
  have f4 := cf hB1 4
  have h5 := c5 hB1
  have f5 := cf hB1 5
  have h6 := c6 hB1
  have f6 := cf hB1 6
  have hgl : w1.cell? ⟨g, off + u, none⟩ = some (.int .u8 (L.getD (i + u) 0)) := by
    rw [cell_of_row w1 g (off + u) _ 5 _ hG.row, List.getElem?_toArray, splice_at _ _ _ _ (by omega) (by rw [seg_length L i (u + 1) (by omega)]; omega), seg_at L i (u + 1) u (by omega) (by omega)]
  have hgl4 : (w1.setCell ⟨Bb, 4, none⟩ .nilIface).cell? ⟨g, off + u, none⟩ = some (.int .u8 (L.getD (i + u) 0)) := (World.cell?_of_block (Below.heap_setCell _ _ _ _ hgB)).trans hgl
  generalize L.getD (i + u) 0 = x at hgl4
  have hn1 : ¬ ((u : Int) + 1) < 0 := by omega
  have hn2 : (0 : Int) < ((u : Int) + 1) := by omega
  have hum : (u : Int) < (m : Int) := by omega
  have hX : ∀ y : Int, Straight w (((((w1.setCell ⟨Bb, 4, none⟩ .nilIface).setCell ⟨Bb, 5, none⟩ (.int .i64 y)).setCell ⟨Bb, 6, none⟩ (.int .i64 (-1)))).setCell ⟨Bb, 4, none⟩ .nilIface) Bb Gb Rb M r g off (some aD) N cD L cur i (u + 1) := fun y =>
    ⟨⟨y, -1, s4 (s6 (s5 (s4 hB1 _) y) _) _⟩,
     by rw [Below.heap_setCell _ _ _ _ (Ne.symm hBR), Below.heap_setCell _ _ _ _ (Ne.symm hBR), Below.heap_setCell _ _ _ _ (Ne.symm hBR), Below.heap_setCell _ _ _ _ (Ne.symm hBR)]; exact hG.rd,
     by rw [Below.heap_setCell _ _ _ _ hgB, Below.heap_setCell _ _ _ _ hgB, Below.heap_setCell _ _ _ _ hgB, Below.heap_setCell _ _ _ _ hgB]; exact hG.row,
     ((((((Only.refl _ _).drewN _).trans (hG.only.mono (by simp)) : Only [Bb, Rb, g] w w1).setCell _ _ (by simp)).setCell _ _ (by simp)).setCell _ _ (by simp)).setCell _ _ (by simp)⟩
  have HX := hX
  have HB2 := fun y => s6 (s5 (s4 hB1 .nilIface) y) (-1)
  clear hX hG hgl
  go_wp2_with fail
  refine (readErr_any Bb Gb Rb M r r .nilIface _ (-1) _ (HB2 _) (.inl rfl)).mono ?_
  rintro e w2 ⟨rfl, rfl⟩
  go_wp2
  go_ret2
  exact ⟨rfl, HX _⟩

end Go.Proofs.Qxb6612454aDoor
