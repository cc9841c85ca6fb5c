/-
  THE LAW's WALK: FnNewReaderReadsBackItsSource returns true, whatever it is handed.
-/
import Derived.Test.Qxb6612454aDoorClone
import Derived.Test.Qxb6612454aDoorReads
import Derived.Test.Qxb6612454aDoorMake
import Derived.Test.Qxb6612454aDoorAll
namespace Go.Proofs.Qxb6612454aDoor
open Go.RowKit

set_option maxHeartbeats 800000 in
theorem zzall_any (P : Place) (w : World) (Lb r : Nat) (aE : Addr) (hte : P.te = 55) (hve : P.ve = .pointer (some aE)) (h : St P w 0 r r) (hH : P.Gb < w.heap.size) (hc : w.cell? ⟨Lb, 0, none⟩ = some (.pointer (some ⟨P.Bb, 0, none⟩))) :
    Calls Tryd.prog 7 #[.pointer (some ⟨Lb, 0, none⟩)] w fun e w' => All P w e w' := by
  have HR := readAll_any P w r aE hte hve h hH
  clear hte hve h
  go_enter Tryd.func7, Tryd.ntmps7
  go_wp2_with fail
  refine HR.mono ?_
  rintro e w1 ⟨⟨ao, cap, rfl, hr⟩, hd, hk⟩
  have X : Hid (Reads w1 ao P.N cap P.L ∧ Reads w1 P.aD P.N P.cD P.L ∧ Kept w.heap.size [P.Bb, P.Rb, P.Gb] w w1) := ⟨hr, hd, hk⟩
  clear hr hd hk HR
  go_wp2
  go_ret2
  exact ⟨⟨_, _, rfl, X.out.1⟩, X.out.2.1, X.out.2.2⟩

theorem reads_at' {w : World} {b : Nat} {l : List Int} {ao : Option Addr} {n cap : Nat} (h : w.ownsRow b 5 1 (.slice ao n cap) l.length (cellsOf l)) (hn : l.length = n) : Reads w ao n cap l := reads_at h rfl hn

/-- The state of a reader that has just been made over a copy of the data. -/
theorem st_made {w wA wB : World} {nl : Bool} {l : List Int} {aD : Option Addr} {n cD Lb Bb Gb Rb M : Nat} {aE : Addr} (hl : l.length = n) (hn : n ≤ 1048576) (hw : 0 < w.heap.size) (hE : w.cell? ⟨0, 0, none⟩ = some (.iface 55 (.pointer (some aE))))
    (hA : Cloned w wA nl l (.slice aD n cD)) (hB : Made wA wB Lb Bb Gb Rb M aD n cD) :
    St ⟨Bb, Gb, Rb, M, aD, n, cD, l, 55, .pointer (some aE)⟩ wB 0 0 0 := by
  have hs := hA.below.size
  have hbel := hB.buf.below
  have hR : Reads wA aD n cD l := reads_at' hA.own hl
  obtain ⟨curG, hG, hlG⟩ := hB.buf.buf
  refine ⟨⟨_, _, hB.buf.br⟩, ⟨_, hB.rd⟩, ⟨curG, hG, hlG, fun j hj => by omega⟩, hR.below hbel (Nat.le_refl _), fun a ha => ?_, ?_, by have := hB.o1; show 0 < Rb; omega, hB.o2, hB.buf.o2, Nat.le_refl _, Nat.zero_le _, Nat.zero_le _, by omega, hB.buf.m16, hB.buf.m64, hn⟩
  · have ha' : aD = some a := ha
    subst ha'
    rcases hA.own.2 with ⟨he, _⟩ | ⟨g, cap, cur, he, hg1, hg, hnc, _⟩
    · simp at he
    · simp at he
      obtain ⟨rfl, _, rfl⟩ := he
      have := lt_of_block hg
      have := hB.o1
      exact ⟨by show g < Rb; omega, by show n ≤ cD; omega⟩
  · rw [hbel.cell (by show 0 < _; omega), hA.below.cell hw]
    exact hE

set_option maxHeartbeats 1600000 in
theorem law_walk (ao : Option Addr) (n cap : Nat) (l : List Int) (s y z : Int) (aE : Addr) (w : World) (hr : Reads w ao n cap l) (hE : w.cell? ⟨0, 0, none⟩ = some (.iface 55 (.pointer (some aE)))) :
    Calls Tryd.prog 3 #[.slice ao n cap, .int .i64 s, .int .i64 y, .int .i64 z] w fun e w' => e = .returned (.bool true) ∧ Below w.heap.size w w' := by
  have hlen := hr.len
  have hw0 := World.block_lt_of_cell? w _ hE
  have HE : Hid (w.cell? ⟨0, 0, none⟩ = some (.iface 55 (.pointer (some aE)))) := hE
  clear hE
  go_enter Tryd.func3, Tryd.ntmps3
  go_wp2_with fail
  refine (bytes4_any ao n cap s y z _).mono ?_
  rintro e w1 ⟨b, rfl, rfl⟩
  cases b with
  | false =>
    go_wp2_with fail
    go_ret
    exact ⟨rfl, Below.refl _ _⟩
  | true =>
    rcases Nat.lt_or_ge 1048576 n with h1 | h1
    · have h1' : (1048576 : Int) < (n : Int) := by omega
      go_wp2_with fail
      go_ret
      exact ⟨rfl, Below.refl _ _⟩
    have h1' : ¬ (1048576 : Int) < (n : Int) := by omega
    by_cases h2 : 65536 < s
    · go_wp2_with fail
      go_ret
      exact ⟨rfl, Below.refl _ _⟩
    have h2' : s ≤ 65536 := by omega
    go_wp2_with fail
    refine (cloneBytes_any ao n cap l _ hr h1).mono ?_
    rintro e wA ⟨aD, cD, rfl, hA⟩
    go_wp2_with fail
    refine (make_any aD n cD s y z _ h2').mono ?_
    rintro e wB ⟨Lb, Bb, Gb, Rb, M, rfl, hB⟩
    have hst := st_made hlen h1 hw0 HE hA hB
    have hbel : Below w.heap.size w wB := hA.below.trans (hB.buf.below.mono hA.below.size)
    have o1 := hA.below.size
    have o2 := hB.o1
    have o3 := hB.o2
    have o4 := hB.buf.o2
    have hG3 := hB.buf.o3
    have hlr := hB.lr
    clear hA hB hr
    go_wp2_with fail
    refine (zzall_any ⟨Bb, Gb, Rb, M, aD, n, cD, l, 55, .pointer (some aE)⟩ _ Lb 0 aE rfl rfl hst hG3 hlr).mono ?_
    rintro e wC ⟨⟨aG, cG, rfl, hg⟩, hd, hk⟩
    have hbC : Below w.heap.size w wC := hbel.trans ⟨hk.os, hk.tape, hk.output, hk.size, fun k hk' => hk.block k (by have := hbel.size; omega) (by simp; omega)⟩
    have hg' : Reads wC aG n cG l := hg
    have hd' : Reads wC aD n cD l := hd
    clear hst hk hg hd hbel
    go_wp2_with fail
    refine (equalBytes_same aG aD n cG cD l _ hg' hd' h1).mono ?_
    rintro e wD ⟨rfl, q, rfl⟩
    go_wp2
    go_ret
    exact ⟨rfl, below_drewN hbC _⟩

end Go.Proofs.Qxb6612454aDoor
