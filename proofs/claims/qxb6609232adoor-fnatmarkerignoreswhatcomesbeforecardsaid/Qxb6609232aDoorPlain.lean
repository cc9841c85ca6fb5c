/-
  THE PLAIN PART: what a blank or a line break at a place of a text is, over lists of bytes. No Go in sight.
-/
import Derived.Lib.Strings
import Derived.Lib.IndexBytes
namespace Go.Proofs.Qxb6609232aDoor

/-- The byte at place i, or -1 behind the end. -/
def bt (l : List UInt8) (i : Nat) : Int := match l[i]? with
  | some x => (x.toNat : Int)
  | none => -1

/-- A line break begins at place i. -/
def brkAt (l : List UInt8) (i : Nat) : Bool :=
  bt l i == 10 || bt l i == 13 || (bt l i == 194 && bt l (i + 1) == 133) || (bt l i == 226 && bt l (i + 1) == 128 && (bt l (i + 2) == 168 || bt l (i + 2) == 169))

/-- A blank, a line break or the end stands at place i. -/
def blkAt (l : List UInt8) (i : Nat) : Bool := decide (l.length ≤ i) || bt l i == 32 || bt l i == 9 || brkAt l i

theorem bt_at (s : ByteArray) (i : Nat) (h : i < s.size) : bt s.data.toList i = (s[i].toNat : Int) := by
  unfold bt
  have e : s.data.toList[i]? = some s[i] := by
    rw [List.getElem?_eq_getElem (by simpa using h)]
    rfl
  rw [e]

theorem bt_out (l : List UInt8) (i : Nat) (h : l.length ≤ i) : bt l i = -1 := by
  unfold bt
  rw [List.getElem?_eq_none h]

theorem bt_drop (l : List UInt8) (a i : Nat) : bt (l.drop a) i = bt l (a + i) := by
  unfold bt
  rw [List.getElem?_drop]

theorem brk_drop (l : List UInt8) (a i : Nat) : brkAt (l.drop a) i = brkAt l (a + i) := by
  unfold brkAt
  simp only [bt_drop, Nat.add_assoc]

theorem blk_drop (l : List UInt8) (a i : Nat) : blkAt (l.drop a) i = blkAt l (a + i) := by
  unfold blkAt
  rw [bt_drop, brk_drop, List.length_drop]
  congr 3
  rw [decide_eq_decide]
  omega

theorem beq_byte (x : UInt8) (n : Nat) (hn : n < 256) : (UInt8.ofNat n == x) = ((x.toNat : Int) == (n : Int)) := by
  rw [Bool.eq_iff_iff, beq_iff_eq, beq_iff_eq]
  constructor
  · rintro rfl
    have : (UInt8.ofNat n).toNat = n := by simp; omega
    omega
  · intro h
    apply UInt8.toNat_inj.1
    have : (UInt8.ofNat n).toNat = n := by simp; omega
    omega

theorem pfx2 (l : List UInt8) : ([194, 133] : List UInt8).isPrefixOf l = (bt l 0 == 194 && bt l 1 == 133) := by
  match l with
  | [] => rfl
  | [a] =>
    simp [bt, List.isPrefixOf]
  | a :: b :: r =>
    have h1 := beq_byte a 194 (by decide)
    have h2 := beq_byte b 133 (by decide)
    simp only [List.isPrefixOf, bt, Bool.and_true, List.getElem?_cons_zero, List.getElem?_cons_succ]
    exact congr (congrArg and h1) h2

theorem pfx3 (l : List UInt8) (z : Nat) (hz : z < 256) : ([226, 128, UInt8.ofNat z] : List UInt8).isPrefixOf l = (bt l 0 == 226 && bt l 1 == 128 && bt l 2 == (z : Int)) := by
  match l with
  | [] => rfl
  | [a] => simp [bt, List.isPrefixOf]
  | [a, b] => simp [bt, List.isPrefixOf]
  | a :: b :: c :: r =>
    have h1 := beq_byte a 226 (by decide)
    have h2 := beq_byte b 128 (by decide)
    have h3 := beq_byte c z hz
    simp only [List.isPrefixOf, bt, Bool.and_true, List.getElem?_cons_zero, List.getElem?_cons_succ]
    rw [h3, ← Bool.and_assoc]
    exact congrArg (· && _) (congr (congrArg and h1) h2)

end Go.Proofs.Qxb6609232aDoor
