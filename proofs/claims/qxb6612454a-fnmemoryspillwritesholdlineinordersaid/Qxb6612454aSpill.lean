/-
  THE WALKS of the three thin functions round the store: ZZNewMemorySpill, ZZMemorySpillWrite, ZZMemorySpillBlocks.
-/
import Derived.Test.Qxb6612454aWrite
namespace Go.Proofs.Qxb6612454a
open Go.RowKit

set_option maxHeartbeats 400000 in
theorem new_any (ao : Option Addr) (n cap : Nat) (w : World) :
    Calls Try.prog 9 #[.slice ao n cap] w fun e w' => e = .returned (.pointer (some ⟨w.heap.size, 0, none⟩)) ∧ w.alloc (.cells #[.slice ao n cap] 38) = w' := by
  go_enter Try.func9, Try.ntmps9
  go_wp2
  go_ret
  exact ⟨rfl, rfl⟩

set_option maxHeartbeats 400000 in
theorem zzwrite_any (S base : Nat) (ab : Option Addr) (nb cb : Nat) (us : List Value) (ao : Option Addr) (n cap : Nat) (l : List Int) (z : Int) (w : World)
    (hS : w.heap[S]? = some (.cells #[.slice ab nb cb] 38 (0, 0))) (hown : w.ownsRow base 23 1 (.slice ab nb cb) nb us) (hbase : base ≤ w.heap.size) (hr : Reads w ao n cap l) (hb : n ≤ 1048576) (hnb : nb ≤ 1048576) :
    Calls Try.prog 10 #[.pointer (some ⟨S, 0, none⟩), .slice ao n cap, .int .i64 z] w fun e w' => ∃ v' u, e = .returned .nilIface ∧ Wrote w w' S base nb (.slice ab nb cb) us (ao.isNone, l) v' u := by
  go_enter Try.func10, Try.ntmps10
  go_wp2_with fail
  refine (write_any S base ab nb cb us ao n cap l z _ hS hown hbase hr hb hnb).mono ?_
  rintro e w1 ⟨v', u, rfl, hw⟩
  have X : Hid (Wrote w w1 S base nb (.slice ab nb cb) us (ao.isNone, l) v' u) := hw
  clear hw
  go_wp2
  go_ret
  exact ⟨_, _, rfl, X⟩

set_option maxHeartbeats 400000 in
theorem blocks_any (S : Nat) (ao : Option Addr) (n cap : Nat) (w : World) (hc : w.cell? ⟨S, 0, none⟩ = some (.slice ao n cap)) :
    Calls Try.prog 11 #[.pointer (some ⟨S, 0, none⟩)] w fun e w' => e = .returned (.slice ao n cap) ∧ w = w' := by
  go_enter Try.func11, Try.ntmps11
  go_wp2
  go_ret
  exact ⟨rfl, rfl⟩

end Go.Proofs.Qxb6612454a
