/-
  THE WALK OF FnIPv6RemoteTypeIsOneDistinctName.
-/
import Derived.Test.Qxb6609239aNames
namespace Go.Proofs.Qxb6609239a
open Go.RowKit

set_option maxHeartbeats 1600000 in
theorem walkR (xs ys : Array Value) (hx : xs.size = 16) (hy : ys.size = 16) (p q : Int) (w : World) :
    Calls Try.prog 4 #[.agg xs, .int .u8 p, .agg ys, .int .u8 q] w fun e w' => e = .returned (.bool true) ∧ Grown w w' := by
  go_enter Try.func4, Try.ntmps4
  go_wp2_with fail
  refine (typeR_any _ _).mono ?_
  rintro e w1 ⟨rfl, rfl⟩
  go_wp2_with fail
  refine (typeR_any _ _).mono ?_
  rintro e w1 ⟨rfl, rfl⟩
  have hg : Grown w ((((w.alloc (.cells xs 26)).alloc (.cells ys 26)).alloc (.cells #[xs[0], xs[1], xs[2], xs[3], xs[4], xs[5], xs[6], xs[7], xs[8], xs[9], xs[10], xs[11], xs[12], xs[13], xs[14], xs[15], .int .u8 p] 28)).alloc (.cells #[ys[0], ys[1], ys[2], ys[3], ys[4], ys[5], ys[6], ys[7], ys[8], ys[9], ys[10], ys[11], ys[12], ys[13], ys[14], ys[15], .int .u8 q] 28)) := ((((Grown.refl _).alloc _ _).alloc _ _).alloc _ _).alloc _ _
  revert hg
  generalize ((((w.alloc (.cells xs 26)).alloc (.cells ys 26)).alloc (.cells #[xs[0], xs[1], xs[2], xs[3], xs[4], xs[5], xs[6], xs[7], xs[8], xs[9], xs[10], xs[11], xs[12], xs[13], xs[14], xs[15], .int .u8 p] 28)).alloc (.cells #[ys[0], ys[1], ys[2], ys[3], ys[4], ys[5], ys[6], ys[7], ys[8], ys[9], ys[10], ys[11], ys[12], ys[13], ys[14], ys[15], .int .u8 q] 28)) = W
  intro hg
  have X : Hid (Grown w W) := hg
  clear hg
  have hO := other_any nmR W (Or.inr rfl)
  unfold nmR at hO ⊢
  go_wp2_with fail
  refine hO.mono ?_
  rintro e w4 ⟨rfl, hg4⟩
  have Y : Hid (Grown w w4) := grown_trans X.out hg4
  clear hg4 hO X
  go_wp2_with fail
  refine (typeG_any _ _).mono ?_
  rintro e w5 ⟨rfl, rfl⟩
  unfold nmG
  go_wp2
  go_ret
  exact ⟨rfl, Y.out⟩

end Go.Proofs.Qxb6609239a
