/-
  THE WALKS of the Type methods and of b1OtherNames.
-/
import Derived.Test.Qxb6609239aProg
import Derived.WalkKit
import Derived.WalkSpells
import Derived.RowKit3
namespace Go.Proofs.Qxb6609239a
open Go.RowKit

/-- The name of a connectivity group's type. -/
def nmG : ByteArray := ⟨#[99, 111, 110, 110, 101, 99, 116, 105, 118, 105, 116, 121, 45, 103, 114, 111, 117, 112, 45, 105, 100]⟩
/-- The name of an IPv6 remote range's type. -/
def nmR : ByteArray := ⟨#[105, 112, 118, 54, 45, 114, 101, 109, 111, 116, 101]⟩

theorem grown_trans {a b c : World} (h : Grown a b) (k : Grown b c) : Grown a c :=
  ⟨World.keptBut_trans h.1 k.1, fun x => (k.2.1 x).trans (h.2.1 x), Nat.le_trans h.2.2 k.2.2⟩

theorem typeG_any (s : ByteArray) (w : World) : Calls Try.prog 8 #[.string s] w fun e w' => e = .returned (.string nmG) ∧ w' = w := by
  go_enter Try.func8, Try.ntmps8
  go_wp2
  go_ret
  exact ⟨rfl, rfl⟩

theorem typeR_any (xs : Array Value) (w : World) : Calls Try.prog 10 #[.agg xs] w fun e w' => e = .returned (.string nmR) ∧ w' = w.alloc (.cells xs 28) := by
  go_enter Try.func10, Try.ntmps10
  go_wp2
  go_ret
  exact ⟨rfl, rfl⟩

theorem other_any (a : ByteArray) (w : World) (h : a = nmG ∨ a = nmR) : Calls Try.prog 9 #[.string a] w fun e w' => e = .returned (.bool true) ∧ Grown w w' := by
  rcases h with rfl | rfl
  · unfold nmG
    go_enter Try.func9, Try.ntmps9
    go_wp2
    go_ret
    exact ⟨rfl, by repeat (first | exact Grown.refl _ | apply Grown.drew | apply Grown.alloc)⟩
  · unfold nmR
    go_enter Try.func9, Try.ntmps9
    go_wp2
    go_ret
    exact ⟨rfl, by repeat (first | exact Grown.refl _ | apply Grown.drew | apply Grown.alloc)⟩

end Go.Proofs.Qxb6609239a
