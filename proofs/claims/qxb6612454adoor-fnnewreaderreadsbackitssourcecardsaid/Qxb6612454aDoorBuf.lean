/-
  THE WALKS of (*bufio.Reader).Read: its state, and each way through it.
-/
import Derived.Test.Qxb6612454aDoorRead
namespace Go.Proofs.Qxb6612454aDoor
open Go.RowKit

/-- The seven cells of a bufio.Reader over a bytes.Reader. -/
def bufRow (Gb Rb M : Nat) (r q : Nat) (err : Value) (lb lr : Int) : Array Value :=
  #[.slice (some ⟨Gb, 0, none⟩) M M, .iface 35 (.pointer (some ⟨Rb, 0, none⟩)), .int .i64 r, .int .i64 q, err, .int .i64 lb, .int .i64 lr]

theorem c0 {w : World} {Bb Gb Rb M r q : Nat} {err : Value} {lb lr : Int} (h : w.heap[Bb]? = some (.cells (bufRow Gb Rb M r q err lb lr) 53 (0, 0))) : w.cell? ⟨Bb, 0, none⟩ = some (.slice (some ⟨Gb, 0, none⟩) M M) := by simp [World.cell?, h, bufRow]
theorem c1 {w : World} {Bb Gb Rb M r q : Nat} {err : Value} {lb lr : Int} (h : w.heap[Bb]? = some (.cells (bufRow Gb Rb M r q err lb lr) 53 (0, 0))) : w.cell? ⟨Bb, 1, none⟩ = some (.iface 35 (.pointer (some ⟨Rb, 0, none⟩))) := by simp [World.cell?, h, bufRow]
theorem c2 {w : World} {Bb Gb Rb M r q : Nat} {err : Value} {lb lr : Int} (h : w.heap[Bb]? = some (.cells (bufRow Gb Rb M r q err lb lr) 53 (0, 0))) : w.cell? ⟨Bb, 2, none⟩ = some (.int .i64 r) := by simp [World.cell?, h, bufRow]
theorem c3 {w : World} {Bb Gb Rb M r q : Nat} {err : Value} {lb lr : Int} (h : w.heap[Bb]? = some (.cells (bufRow Gb Rb M r q err lb lr) 53 (0, 0))) : w.cell? ⟨Bb, 3, none⟩ = some (.int .i64 q) := by simp [World.cell?, h, bufRow]
theorem c4 {w : World} {Bb Gb Rb M r q : Nat} {err : Value} {lb lr : Int} (h : w.heap[Bb]? = some (.cells (bufRow Gb Rb M r q err lb lr) 53 (0, 0))) : w.cell? ⟨Bb, 4, none⟩ = some err := by simp [World.cell?, h, bufRow]
theorem c5 {w : World} {Bb Gb Rb M r q : Nat} {err : Value} {lb lr : Int} (h : w.heap[Bb]? = some (.cells (bufRow Gb Rb M r q err lb lr) 53 (0, 0))) : w.cell? ⟨Bb, 5, none⟩ = some (.int .i64 lb) := by simp [World.cell?, h, bufRow]
theorem c6 {w : World} {Bb Gb Rb M r q : Nat} {err : Value} {lb lr : Int} (h : w.heap[Bb]? = some (.cells (bufRow Gb Rb M r q err lb lr) 53 (0, 0))) : w.cell? ⟨Bb, 6, none⟩ = some (.int .i64 lr) := by simp [World.cell?, h, bufRow]
theorem cf {w : World} {Bb Gb Rb M r q : Nat} {err : Value} {lb lr : Int} (h : w.heap[Bb]? = some (.cells (bufRow Gb Rb M r q err lb lr) 53 (0, 0))) (j : Nat) : w.frozen? ⟨Bb, j, none⟩ = false := by simp [World.frozen?, h]
theorem s2 {w : World} {Bb Gb Rb M r q : Nat} {err : Value} {lb lr : Int} (h : w.heap[Bb]? = some (.cells (bufRow Gb Rb M r q err lb lr) 53 (0, 0))) (x : Nat) : (w.setCell ⟨Bb, 2, none⟩ (.int .i64 x)).heap[Bb]? = some (.cells (bufRow Gb Rb M x q err lb lr) 53 (0, 0)) := heap_setCell_same w Bb 2 _ 53 _ h
theorem s3 {w : World} {Bb Gb Rb M r q : Nat} {err : Value} {lb lr : Int} (h : w.heap[Bb]? = some (.cells (bufRow Gb Rb M r q err lb lr) 53 (0, 0))) (x : Nat) : (w.setCell ⟨Bb, 3, none⟩ (.int .i64 x)).heap[Bb]? = some (.cells (bufRow Gb Rb M r x err lb lr) 53 (0, 0)) := heap_setCell_same w Bb 3 _ 53 _ h
theorem s4 {w : World} {Bb Gb Rb M r q : Nat} {err : Value} {lb lr : Int} (h : w.heap[Bb]? = some (.cells (bufRow Gb Rb M r q err lb lr) 53 (0, 0))) (x : Value) : (w.setCell ⟨Bb, 4, none⟩ x).heap[Bb]? = some (.cells (bufRow Gb Rb M r q x lb lr) 53 (0, 0)) := heap_setCell_same w Bb 4 _ 53 _ h
theorem s5 {w : World} {Bb Gb Rb M r q : Nat} {err : Value} {lb lr : Int} (h : w.heap[Bb]? = some (.cells (bufRow Gb Rb M r q err lb lr) 53 (0, 0))) (x : Int) : (w.setCell ⟨Bb, 5, none⟩ (.int .i64 x)).heap[Bb]? = some (.cells (bufRow Gb Rb M r q err x lr) 53 (0, 0)) := heap_setCell_same w Bb 5 _ 53 _ h
theorem s6 {w : World} {Bb Gb Rb M r q : Nat} {err : Value} {lb lr : Int} (h : w.heap[Bb]? = some (.cells (bufRow Gb Rb M r q err lb lr) 53 (0, 0))) (x : Int) : (w.setCell ⟨Bb, 6, none⟩ (.int .i64 x)).heap[Bb]? = some (.cells (bufRow Gb Rb M r q err lb x) 53 (0, 0)) := heap_setCell_same w Bb 6 _ 53 _ h

/-- The tail of Read: something is buffered: copy it out. -/
structure Copied (W W' : World) (Bb Gb Rb M g off : Nat) (L : List Int) (cur : List Value) (pos r q n : Nat) : Prop where
  br : ∃ lb lr : Int, W'.heap[Bb]? = some (.cells (bufRow Gb Rb M (r + n) q .nilIface lb lr) 53 (0, 0))
  row : W'.heap[g]? = some (.cells (splice cur off (seg L pos n)).toArray 5 (0, 0))
  only : Only [Bb, g] W W'

/-- What is buffered, and where it goes. -/
structure Buffered (w : World) (Bb Gb Rb M g off m : Nat) (L : List Int) (cur curG : List Value) (pos r q : Nat) (lb lr : Int) : Prop where
  br : w.heap[Bb]? = some (.cells (bufRow Gb Rb M r q .nilIface lb lr) 53 (0, 0))
  buf : w.heap[Gb]? = some (.cells curG.toArray 5 (0, 0))
  row : w.heap[g]? = some (.cells cur.toArray 5 (0, 0))
  bytes : ∀ j, j < q - r → curG[r + j]? = some (.int .u8 (L.getD (pos + j) 0))
  lenG : curG.length = M
  rq : r < q
  qM : q ≤ M
  fit : off + m ≤ cur.length
  inL : pos + (q - r) ≤ L.length
  gB : g ≠ Bb
  gG : g ≠ Gb
  GB : Gb ≠ Bb

set_option maxHeartbeats 800000 in
theorem buf_copy (Bb Gb Rb M g off m c : Nat) (L : List Int) (cur curG : List Value) (pos r q n : Nat) (lb lr : Int) (w : World)
    (hB : Buffered w Bb Gb Rb M g off m L cur curG pos r q lb lr) (hm : 0 < m) (hn : n = min m (q - r)) (hM : M ≤ 65536) :
    Calls Tryd.prog 32 #[.pointer (some ⟨Bb, 0, none⟩), .slice (some ⟨g, off, none⟩) m c] w fun e w' => e = .returned (.tuple #[.int .i64 n, .nilIface]) ∧ Copied w w' Bb Gb Rb M g off L cur pos r q n := by
  have h0 := c0 hB.br
  have h2 := c2 hB.br
  have h3 := c3 hB.br
  have hm0 : ((m : Int) == 0) = false := by simp; omega
  have hrq := hB.rq
  have hqM := hB.qM
  have hrq' : ((r : Int) == (q : Int)) = false := by simp; omega
  go_enter Tryd.func32, Tryd.ntmps32
  go_wp2
  go_quiet (fail)
  go_wp2
  have hBW : Buffered (w.drewN nq) Bb Gb Rb M g off m L cur curG pos r q lb lr := ⟨hB.br, hB.buf, hB.row, hB.bytes, hB.lenG, hB.rq, hB.qM, hB.fit, hB.inL, hB.gB, hB.gG, hB.GB⟩
  have hOW : Only [Bb, g] w (w.drewN nq) := (Only.refl _ _).drewN _
  clear h0 h2 h3 hB
  generalize w.drewN nq = W at hBW hOW ⊢
  have hB := hBW
  clear hBW
  have hnn : (seg L pos n).length = n := seg_length L pos n (by have := hB.inL; omega)
  have hmn : (seg L pos n).length = Nat.min (q - r) m := by rw [hnn, hn, Nat.min_comm]
  have hff : off + (seg L pos n).length ≤ cur.length := by rw [hnn]; have := hB.fit; omega
  have hGW := hB.buf
  have hsrc : ∀ j v, (seg L pos n)[j]? = some v → W.drew.cell? ((⟨Gb, r, none⟩ : Addr).add j) = some v := fun j v hv => by
    have hj : j < n := by have := (List.getElem?_eq_some_iff.1 hv).1; omega
    rw [seg_at L pos n j hj (by have := hB.inL; omega)] at hv
    rw [← hv, Addr.add_lit]
    show W.cell? _ = _
    rw [cell_of_row W Gb (r + j) _ 5 _ hGW]
    simpa using hB.bytes j (by omega)
  have h0 := c0 hB.br
  have h2 := c2 hB.br
  have h3 := c3 hB.br
  have hgD : W.drew.heap[g]? = some (.cells cur.toArray 5 (0, 0)) := hB.row
  have hb2 : ∀ cs, (W.drew.setRow g cs).heap[Bb]? = some (.cells (bufRow Gb Rb M r q .nilIface lb lr) 53 (0, 0)) := fun cs => (setRow_other W.drew g Bb cs (Ne.symm hB.gB)).trans hB.br
  have hkeep : ∀ cs, (W.drew.setRow g cs).cell? ⟨Bb, 0, none⟩ = some (.slice (some ⟨Gb, 0, none⟩) M M) ∧ (W.drew.setRow g cs).cell? ⟨Bb, 2, none⟩ = some (.int .i64 r) ∧ (W.drew.setRow g cs).cell? ⟨Bb, 3, none⟩ = some (.int .i64 q) := fun cs =>
    ⟨c0 (hb2 cs), c2 (hb2 cs), c3 (hb2 cs)⟩
  have hn1 : n ≤ q - r := by omega
  have hn2 : 0 < n := by omega
  clear hn
  have b0 : (0 : Int) ≤ (r : Int) := by omega
  have b1 : (r : Int) ≤ (q : Int) := by omega
  have b2 : (q : Int) ≤ (M : Int) := by omega
  have b3 : ¬ M = r := by omega
  go_region_held3 (fun w' => w'.cell? ⟨Bb, 0, none⟩ = some (.slice (some ⟨Gb, 0, none⟩) M M) ∧ w'.cell? ⟨Bb, 2, none⟩ = some (.int .i64 r) ∧ w'.cell? ⟨Bb, 3, none⟩ = some (.int .i64 q))
    (first | (go_keep; done) | (exact hkeep _))
    (first | (refine step_copy_at (by rfl) _ _ _ _ (by rfl) 5 Tryd.underlying22 size5 g off m c ⟨Gb, r, none⟩ (q - r) (M - r) (by rfl) (by rfl) cur 5 hgD (seg L pos n) n hnn hmn hsrc hff (seg_one L pos n) ?_))
  have hbr2 := hb2 (splice cur off (seg L pos n)).toArray
  have hrow2 : (W.drew.setRow g (splice cur off (seg L pos n)).toArray).heap[g]? = some (.cells (splice cur off (seg L pos n)).toArray 5 (0, 0)) := setRow_heap W.drew g _ _ 5 _ hgD
  have hbuf2 : (W.drew.setRow g (splice cur off (seg L pos n)).toArray).heap[Gb]? = some (.cells curG.toArray 5 (0, 0)) := (setRow_other W.drew g Gb _ (Ne.symm hB.gG)).trans hGW
  have ho2 : Only [Bb, g] W (W.drew.setRow g (splice cur off (seg L pos n)).toArray) := ((Only.refl _ _).drew).setRow _ _ (by simp)
  clear hkeep hb2 hsrc hgD hGW h0 h2 h3 hff hmn
  generalize W.drew.setRow g (splice cur off (seg L pos n)).toArray = W2 at hbr2 hrow2 hbuf2 ho2 ⊢
  have h2 := c2 hbr2
  have f2 := cf hbr2 2
  have hb4 : (r : Int) + (n : Int) ≤ 65536 := by omega
  go_wp2
  obtain ⟨u, hu⟩ : ∃ u, r + n = u + 1 := ⟨r + n - 1, by omega⟩
  have HU : Hid (r + n = u + 1) := hu
  have e : Value.int .i64 ((r : Int) + (n : Int)) = .int .i64 ((u : Int) + 1) := by
    have : (r : Int) + (n : Int) = (u : Int) + 1 := by omega
    rw [this]
  have hbr3 : (W2.setCell ⟨Bb, 2, none⟩ (.int .i64 ((r : Int) + (n : Int)))).heap[Bb]? = some (.cells (bufRow Gb Rb M (u + 1) q .nilIface lb lr) 53 (0, 0)) := by
    rw [e]; exact s2 hbr2 (u + 1)
  have hrow3 : (W2.setCell ⟨Bb, 2, none⟩ (.int .i64 ((r : Int) + (n : Int)))).heap[g]? = some (.cells (splice cur off (seg L pos n)).toArray 5 (0, 0)) := (Below.heap_setCell _ _ _ _ hB.gB).trans hrow2
  have hbuf3 : (W2.setCell ⟨Bb, 2, none⟩ (.int .i64 ((r : Int) + (n : Int)))).heap[Gb]? = some (.cells curG.toArray 5 (0, 0)) := (Below.heap_setCell _ _ _ _ hB.GB).trans hbuf2
  have ho3 : Only [Bb, g] W (W2.setCell ⟨Bb, 2, none⟩ (.int .i64 ((r : Int) + (n : Int)))) := ho2.setCell _ _ (by simp)
  have hur : u - r < q - r := by omega
  have huM : u < M := by have := hB.qM; omega
  have hru : r ≤ u := by omega
  clear h2 f2 hu e hbr2 hrow2 hbuf2 ho2
  generalize W2.setCell ⟨Bb, 2, none⟩ (.int .i64 ((r : Int) + (n : Int))) = W3 at hbr3 hrow3 hbuf3 ho3 ⊢
  have h0 := c0 hbr3
  have h2 : W3.cell? ⟨Bb, 2, none⟩ = some (.int .i64 ((u : Int) + 1)) := c2 hbr3
  have f5 := cf hbr3 5
  have h5 := c5 hbr3
  have hx : W3.cell? ⟨Gb, u, none⟩ = some (.int .u8 (L.getD (pos + (u - r)) 0)) := by
    rw [cell_of_row W3 Gb u _ 5 _ hbuf3]
    have := hB.bytes (u - r) hur
    rw [show r + (u - r) = u by omega] at this
    simpa using this
  generalize L.getD (pos + (u - r)) 0 = x at hx
  have hk5 : ∀ y : Int, (W3.setCell ⟨Bb, 5, none⟩ (.int .i64 y)).drew.cell? ⟨Bb, 0, none⟩ = some (.slice (some ⟨Gb, 0, none⟩) M M) ∧ (W3.setCell ⟨Bb, 5, none⟩ (.int .i64 y)).drew.cell? ⟨Bb, 2, none⟩ = some (.int .i64 ((u : Int) + 1)) ∧ (W3.setCell ⟨Bb, 5, none⟩ (.int .i64 y)).drew.cell? ⟨Gb, u, none⟩ = some (.int .u8 x) := fun y =>
    ⟨c0 (s5 hbr3 y), c2 (s5 hbr3 y), (World.cell?_of_block (Below.heap_setCell _ _ _ _ hB.GB)).trans hx⟩
  have u0 : (0 : Int) ≤ (u : Int) := by omega
  have u1 : (u : Int) < (M : Int) := by omega
  have u2 : IntKind.i64.wrap (u : Int) = (u : Int) := by rw [IntKind.wrap_i64]; omega
  have u3 : IntKind.i64.wrap ((u : Int) + 1 - 1) = (u : Int) := by rw [IntKind.wrap_i64]; omega
  go_region_held3 (fun w' => w'.cell? ⟨Bb, 0, none⟩ = some (.slice (some ⟨Gb, 0, none⟩) M M) ∧ w'.cell? ⟨Bb, 2, none⟩ = some (.int .i64 ((u : Int) + 1)) ∧ w'.cell? ⟨Gb, u, none⟩ = some (.int .u8 x))
    (first | (go_keep; done) | (exact hk5 _))
    (fail)
  have hbr4 := s5 hbr3 (IntKind.i64.wrap x)
  have hrow4 : (W3.setCell ⟨Bb, 5, none⟩ (.int .i64 (IntKind.i64.wrap x))).heap[g]? = some (.cells (splice cur off (seg L pos n)).toArray 5 (0, 0)) := (Below.heap_setCell _ _ _ _ hB.gB).trans hrow3
  have ho4 : Only [Bb, g] W (W3.setCell ⟨Bb, 5, none⟩ (.int .i64 (IntKind.i64.wrap x))).drew := (ho3.setCell _ _ (by simp)).drew
  have hbr4d : (W3.setCell ⟨Bb, 5, none⟩ (.int .i64 (IntKind.i64.wrap x))).drew.heap[Bb]? = _ := hbr4
  have hrow4d : (W3.setCell ⟨Bb, 5, none⟩ (.int .i64 (IntKind.i64.wrap x))).drew.heap[g]? = _ := hrow4
  clear hk5 hbr4 hrow4 h0 h2 h5 f5 hx hbr3 hrow3 hbuf3 ho3
  generalize (W3.setCell ⟨Bb, 5, none⟩ (.int .i64 (IntKind.i64.wrap x))).drew = W4 at hbr4d hrow4d ho4 ⊢
  have h6 := c6 hbr4d
  have f6 := cf hbr4d 6
  have X : Hid (Copied W (W4.setCell ⟨Bb, 6, none⟩ (.int .i64 (-1))) Bb Gb Rb M g off L cur pos r q n) := by
    refine ⟨⟨IntKind.i64.wrap x, -1, ?_⟩, (Below.heap_setCell _ _ _ _ hB.gB).trans hrow4d, ho4.setCell _ _ (by simp)⟩
    rw [HU.out]
    exact s6 hbr4d (-1)
  clear hbr4d hrow4d ho4
  go_wp2
  go_ret2
  exact ⟨rfl, X.out.br, X.out.row, hOW.trans X.out.only⟩

end Go.Proofs.Qxb6612454aDoor
