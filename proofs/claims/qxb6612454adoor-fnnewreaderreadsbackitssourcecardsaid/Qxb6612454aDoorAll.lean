/-
  THE WALK of io.ReadAll.
-/
import Derived.Test.Qxb6612454aDoorAcc
import Derived.Lib.AppendZeros
import Derived.Deep.AppendLies
import Derived.LaidEql
namespace Go.Proofs.Qxb6612454aDoor
open Go.RowKit

theorem nil_ahead (Bb : Nat) (w : World) : (nilAhead 186 38 (.pointer (some ⟨Bb, 0, none⟩)) "Read").run Tryd.prog w = .ok (some false) w := by kernel_rfl
theorem method_br (Bb : Nat) (w : World) : (method 186 38 (.pointer (some ⟨Bb, 0, none⟩)) "Read").run Tryd.prog w = .ok (32, .pointer (some ⟨Bb, 0, none⟩)) w := by kernel_rfl

theorem St.drew {P : Place} {w : World} {i r q : Nat} (h : St P w i r q) : St P w.drew i r q :=
  ⟨h.br, h.rd, h.buf, ⟨h.data.len, h.data.nilCase, h.data.cell⟩, h.dlt, h.eof, h.o1, h.o2, h.o3, h.rq, h.qM, h.iN, h.qi, h.m16, h.m64, h.n20⟩

theorem cmp55 : (Tryd.prog.info? 55).map (·.comparable) = some true := by kernel_rfl
theorem inf85 : ∃ i, Tryd.prog.info? (Tryd.prog.pointee 55) = some i := by
  have h : (Tryd.prog.info? (Tryd.prog.pointee 55)).isSome = true := by kernel_rfl
  exact Option.isSome_iff_exists.1 h
theorem ifc30 : Tryd.prog.underlying 30 = some (.interface (Tryd.prog.methodsAt 30)) := by kernel_rfl
theorem ptr55 : Tryd.prog.underlying 55 = some (.pointer (Tryd.prog.pointee 55)) := by kernel_rfl
theorem eq_eof (a : Addr) (w : World) : (binOp .eql 30 (.iface 55 (.pointer (some a))) (.iface 55 (.pointer (some a)))).run Tryd.prog w = .ok (.bool true) w := by
  obtain ⟨i, hi, hc⟩ := Option.map_eq_some_iff.1 cmp55
  obtain ⟨j, hj⟩ := inf85
  exact run_eql_iface_ptr_same w a ifc30 ptr55 hi hc hj

/-- The length in a slice's slot. -/
def lenOf : Value → Nat | .slice _ n _ => n | _ => 0

/-- What ReadAll hands back. -/
structure All (P : Place) (w : World) (e : Ending) (w' : World) : Prop where
  ret : ∃ ao cap, e = .returned (.tuple #[.slice ao P.N cap, .nilIface]) ∧ Reads w' ao P.N cap P.L
  data : Reads w' P.aD P.N P.cD P.L
  kept : Kept w.heap.size [P.Bb, P.Rb, P.Gb] w w'

set_option maxRecDepth 100000 in
set_option maxHeartbeats 1600000 in
theorem readAll_any (P : Place) (w : World) (r : Nat) (aE : Addr) (hte : P.te = 55) (hve : P.ve = .pointer (some aE)) (h : St P w 0 r r) (hH : P.Gb < w.heap.size) :
    Calls Tryd.prog 11 #[.iface 38 (.pointer (some ⟨P.Bb, 0, none⟩))] w fun e w' => All P w e w' := by
  obtain ⟨i5, hi5, hz50, hz51, hz52⟩ := info_parts info5
  obtain ⟨i22, hi22, hz220, hz221, hz222⟩ := info_parts info22
  go_enter Tryd.func11, Tryd.ntmps11
  go_wp2_with (at_make; refine wpList_make_own _ rfl _ _ 22 rfl w.heap.size 5 i5 (.int .u8 0) 1 Tryd.underlying22 hi5 hz50 hz51 _ _ _ 512 rfl rfl (by rfl) ?b1 ?b2 ?b3 ?_)
  case b1 => rw [hz52]; omega
  case b2 => unfold maxLen; omega
  case b3 => exact Nat.le_refl _
  intro w1 o1 g1
  go_wp2_with (at_make; refine wpList_make_own _ rfl _ _ 48 rfl w.heap.size 22 i22 (.slice none 0 0) 1 Tryd.underlying48 hi22 hz220 hz221 _ _ _ 4 rfl rfl (by rfl) ?b4 ?b5 ?b6 ?_)
  case b4 => rw [hz222]; omega
  case b5 => unfold maxLen; omega
  case b6 => exact g1.size
  intro w2 o2 g2
  have hb1 : Below w.heap.size w w1 := (Below.refl _ _).grown g1 (Nat.le_refl _) (by simp)
  have hb2 : Below w1.heap.size w1 w2 := (Below.refl _ _).grown g2 (Nat.le_refl _) (by simp)
  have A0 := Acc.start h hH o1 hb1 o2 hb2
  clear o1 g1 o2 g2 hb2
  go_wp2
  go_loopw [4, 5, 6, 7] (fun b nx ch fs wr => ∃ (g lb cb nxn gc cc : Nat) (us : List Value) (Cs : List (List Int)) (Bs : List Int) (fsn i r q : Nat), b = .slice (some ⟨g, 0, none⟩) lb cb ∧ nx = .int .i64 nxn ∧ ch = .slice (some ⟨gc, 0, none⟩) Cs.length cc ∧ fs = .int .i64 fsn ∧ Acc P w.heap.size w wr g lb cb nxn (.slice (some ⟨gc, 0, none⟩) Cs.length cc) us Cs Bs fsn i r q)
    (fun b _ _ fs _ => P.N - ((intOf fs).toNat + lenOf b))
  case atStart => exact ⟨w.heap.size, 0, 512, 256, w1.heap.size, 4, [], [], [], 0, 0, r, r, rfl, rfl, rfl, rfl, A0⟩
  case round =>
    clear A0 hb1
    obtain ⟨g, lb, cb, nxn, gc, cc, us, Cs, Bs, fsn, i, r, q, rfl, rfl, rfl, rfl, A⟩ := hrel
    have hM := A.mid
    have hcb := hM.cb1
    have hlbc := hM.lbc
    have hcbm := hM.cbm
    unfold maxLen at hcbm
    have hroom := A.room
    have hcnt := hM.count
    have hn20 := hM.st.n20
    have l0 : (0 : Int) ≤ (lb : Int) := by omega
    have l1 : (lb : Int) ≤ (cb : Int) := by omega
    have l2 : (cb : Int) ≤ (cb : Int) := by omega
    have l3 : ¬ cb = lb := by omega
    have hgG : P.Gb < g := by
      have := (hM.ownb.lt g rfl).1
      have := hM.HG
      omega
    have hpos : 0 < cb - lb := by omega
    have hna := nil_ahead P.Bb
    have hmb := method_br P.Bb
    go_wp2_with fail
    by_cases hend : i - (q - r) = P.N
    · go_region_held3 (fun _ => True)
        (first | (trivial) | (go_keep; done))
        (first | (go_at_call 32; refine (read_end P _ i r q g lb (cb - lb) (cb - lb) (by exact hM.st.drew) hend hgG hpos).mono ?_; rintro e w3 ⟨rfl, r', hst', ho⟩))
      have hiN : i = P.N := by have := hM.st.iN; omega
      have hM3 := hM.same hst' (by omega) (Only.trans ((Only.refl _ _).drew) ho)
      have hE3 := hst'.eof
      rw [hte, hve] at hE3
      have hq := eq_eof aE
      have hwh := hM3.whole (by omega)
      have hfl : Hid (Cs.flatten.length = fsn) := hM3.fsum
      have hbl : Hid (Bs.length = lb) := hM3.lenb
      have hkc := hM3.kc
      have b1 : (lb : Int) ≤ 1048576 := by omega
      have b2 : (fsn : Int) + (lb : Int) ≤ 1048576 := by omega
      have hNs : Hid (fsn + lb = P.N) := by show fsn + lb = P.N; omega
      have hend3 : Hid (i - (r' - r') = P.N) := by show i - (r' - r') = P.N; omega
      clear hM A ho hna hmb hiN hend hcnt hroom
      rcases Nat.eq_zero_or_pos Cs.length with hC | hC
      · have hC' : ((Cs.length : Int) == 0) = true := by simp [hC]
        have X : Hid (lb = P.N ∧ Reads w3 (some ⟨g, 0, none⟩) P.N cb P.L) := hM3.done0 hend3 hC
        clear hC hwh
        go_wp2
        go_ret2
        exact ⟨⟨_, _, by rw [← X.out.1]; rfl, X.out.2⟩, hM3.st.data, hM3.kept⟩
      · have hC' : ((Cs.length : Int) == 0) = false := beq_eq_false_iff_ne.2 (by omega)
        have hz0 := Lib.run_append_nil_zeros (P := Tryd.prog) w3 22 3 22 5 i5 (.int .u8 0) .i64 .i64 Tryd.underlying22 Tryd.underlying3 hi5 hz50 (fsn + lb) (by omega) (by omega) (by omega) (by rw [hz52]; omega)
        rw [show ((fsn + lb : Nat) : Int) = (fsn : Int) + (lb : Int) from by omega] at hz0
        have hge := grownCap_ge w3 (fsn + lb) 0 5
        have hle := grownCap_le_maxLen w3 (fsn + lb) 0 5 (by unfold maxLen; omega)
        have F0 : Fin w3 (w3.drew.alloc (.cells (Builtin.zeroCells (Value.int .u8 0).cells (fsn + lb) ++ Builtin.zeroCells (Value.int .u8 0).cells (grownCap w3 (fsn + lb) 0 5 - (fsn + lb))) 5)) [] (.slice (some ⟨w3.heap.size, 0, none⟩) 0 (grownCap w3 (fsn + lb) 0 5)) :=
          ⟨World.ownsRow_made w3.drew _ _ (Nat.le_refl _) hle (by rw [Array.size_append, size_zeroCells, size_zeroCells, show (Value.int .u8 0).cells.size = 1 from rfl]; omega), ((Below.refl _ _).drew).alloc (Nat.le_refl _) _⟩
        generalize grownCap w3 (fsn + lb) 0 5 = cf at hz0 hge hle F0
        go_wp2_with (at_builtin; refine Lib.wpList_append_run _ rfl _ _ 22 3 rfl _ _ rfl rfl _ _ hz0 ?_)
        clear hz0 hge hle hq hE3 wr
        go_loopw [10, 54] (fun f k wr => ∃ (j : Nat) (af : Option Addr) (cf : Nat), j ≤ Cs.length ∧ k = .int .i64 j ∧ f = .slice af (Cs.take j).flatten.length cf ∧ Fin w3 wr (Cs.take j).flatten (.slice af (Cs.take j).flatten.length cf)) (fun _ k _ => Cs.length - (intOf k).toNat)
        case atStart => exact ⟨0, _, _, Nat.zero_le _, rfl, rfl, F0⟩
        case round =>
          clear F0
          obtain ⟨j, af, cf, hj, rfl, rfl, F⟩ := hrel
          have hfl2 := flatten_take_le Cs j
          have hfl3 := hfl.out
          rcases Nat.lt_or_ge j Cs.length with hlt | hge
          · obtain ⟨gj, cj, hcj, hgc, hgj, hcells⟩ := hM3.chunkAt hlt
            have hcx : wr.cell? ⟨gc, j, none⟩ = some (.slice (some ⟨gj, 0, none⟩) (Cs.getD j []).length cj) := (F.below.cell (by exact hgc)).trans hcj
            have hcy : ∀ t u, (cellsOf (Cs.getD j []))[t]? = some u → wr.cell? ((⟨gj, 0, none⟩ : Addr).add t) = some u := fun t u hu => (F.below.cell (by rw [block_add]; exact hgj)).trans (hcells t u hu)
            have hts := flatten_take_succ Cs j hlt
            have hfl4 := flatten_take_le Cs (j + 1)
            have hbase := F.below.size
            rw [hts, List.length_append] at hfl4
            have HTS : Hid ((Cs.take (j + 1)).flatten = (Cs.take j).flatten ++ Cs.getD j []) := hts
            clear hts hcj hcells hwh
            generalize (Cs.take j).flatten = l at F hfl2 hfl4 HTS ⊢
            generalize Cs.getD j [] = C at hcx hcy hfl4 HTS
            clear hfl2
            go_wp2_with (at_builtin; refine wpList_append_own _ rfl _ _ 22 rfl w3.heap.size 5 i5 (.int .u8 0) 1 1 Tryd.underlying22 hi5 hz50 hz51 hz52 rfl (by decide) _ _ _ rfl F.own ⟨gj, 0, none⟩ C.length cj (cellsOf C) rfl ?d0 hcy (ints_oneCell .u8 C) ?d3 ?d4 hbase ?_)
            case d0 => simp [cellsOf]
            case d3 => unfold maxLen; omega
            case d4 => omega
            intro v' w5 hown5 hgrow5 _
            have F' := F.add hown5 hgrow5
            obtain ⟨af', cf', hv'⟩ := own_form hown5
            rw [hv'] at F' ⊢
            clear hown5 hgrow5 F hv'
            go_wp2
            go_roundw
            case rel => exact ⟨j + 1, af', cf', by omega, by go_num, by rw [HTS.out, List.length_append], by rw [HTS.out, List.length_append]; exact F'⟩
            case measure => simp [intOf]; omega
          · obtain rfl : j = Cs.length := by omega
            have hcy : ∀ t u, (cellsOf Bs)[t]? = some u → wr.cell? ((⟨g, 0, none⟩ : Addr).add t) = some u := fun t u hu => (F.below.cell (by rw [block_add]; exact (hM3.ownb.lt g rfl).2)).trans (cells_own hM3.ownb t u hu)
            have hbase := F.below.size
            have hlB := hbl.out
            rw [List.take_length] at F ⊢
            have hX : ∀ (w5 : World) (af' : Option Addr) (cf' : Nat), Fin w3 w5 (Cs.flatten ++ Bs) (.slice af' (Cs.flatten.length + lb) cf') → All P w (.returned (.tuple #[.slice af' (Cs.flatten.length + lb) cf', .nilIface])) w5 := fun w5 af' cf' F' => by
              have hN : Cs.flatten.length + lb = P.N := by rw [hfl3]; exact hNs
              have hk := hM3.Hle
              refine ⟨⟨af', cf', by rw [hN], ?_⟩, hM3.st.data.below F'.below (Nat.le_refl _), hM3.kept.trans (Kept.below (F'.below.mono hk))⟩
              rw [← hwh]
              exact reads_at F'.own (by rw [hN]) (by rw [List.length_append, hlB, hN])
            have HX : Hid (∀ (w5 : World) (af' : Option Addr) (cf' : Nat), Fin w3 w5 (Cs.flatten ++ Bs) (.slice af' (Cs.flatten.length + lb) cf') → All P w (.returned (.tuple #[.slice af' (Cs.flatten.length + lb) cf', .nilIface])) w5) := hX
            have hle' : Cs.flatten.length + lb ≤ 1048576 := by omega
            clear hX hwh hfl2 hfl3 hfl
            generalize Cs.flatten = l at F hle' HX ⊢
            go_wp2_with (at_builtin; refine wpList_append_own _ rfl _ _ 22 rfl w3.heap.size 5 i5 (.int .u8 0) 1 1 Tryd.underlying22 hi5 hz50 hz51 hz52 rfl (by decide) _ _ _ rfl F.own ⟨g, 0, none⟩ lb cb (cellsOf Bs) rfl ?e0 hcy (ints_oneCell .u8 Bs) ?e3 ?e4 hbase ?_)
            case e0 => simp [cellsOf, hlB]
            case e3 => unfold maxLen; omega
            case e4 => omega
            intro v' w5 hown5 hgrow5 _
            have F' := F.add (m := Bs) (by rw [hlB]; exact hown5) hgrow5
            obtain ⟨af', cf', hv'⟩ := own_form hown5
            rw [hv'] at F' ⊢
            clear hown5 hgrow5 F hv'
            go_wp2
            go_ret2
            exact HX.out _ _ _ F'
    · obtain ⟨cur, hrow, hcl, hct⟩ := hM.row
      have hlt : i - (q - r) < P.N := by omega
      clear hend
      go_region_held3 (fun _ => True)
        (first | (trivial) | (go_keep; done))
        (first | (go_at_call 32; refine (read_some P _ i r q g lb (cb - lb) (cb - lb) cur (by exact hM.st.drew) hlt hgG hpos (by exact hrow) (by omega)).mono ?_; rintro e w3 ⟨n, i', r', q', rfl, hn0, hnm, hst', hp', hrow', ho⟩))
      have hM' := hM.step hcl hct hst' hp' hrow' (Only.trans ((Only.refl _ _).drew) ho) (by omega)
      have hcnt' := hM'.count
      have b0 : (lb : Int) + (n : Int) ≤ (cb : Int) := by omega
      have b1 : (lb : Int) + (n : Int) ≤ 1048576 := by omega
      have x1 := hM'.nx1
      have x2 := hM'.nx2
      have x3 := hM'.kc
      have b2 : (nxn : Int) ≤ 2097664 := by omega
      have b3 : (fsn : Int) + ((lb : Int) + (n : Int)) ≤ 1048576 := by omega
      clear hrow hrow' hst' ho hp' hM A hct hna hmb hlt
      by_cases hfull : (cb : Int) - ((lb : Int) + (n : Int)) < (cb : Int) / 16
      · have hbase : w.heap.size ≤ (w3.alloc (.cells #[.slice (some ⟨g, 0, none⟩) (lb + n) cb] 22)).heap.size := by have := hM'.Hle; simp; omega
        have hFull : cb - (lb + n) < cb / 16 := by omega
        go_wp2_with (at_builtin; refine wpList_append_lies _ rfl (.tmp 76) (.tmp 78) 48 rfl w.heap.size 22 i22 (.slice none 0 0) 1 24 Tryd.underlying48 hi22 hz220 hz221 hz222 rfl (by omega) (.slice (some ⟨gc, 0, none⟩) Cs.length cc) Cs.length us rfl (hM'.ownc.alloc _) ⟨w3.heap.size, 0, none⟩ 1 1 [.slice (some ⟨g, 0, none⟩) (lb + n) cb] rfl rfl (World.news_of_block (cs := #[.slice (some ⟨g, 0, none⟩) (lb + n) cb]) (t := 22) (fr := (0, 0)) (heap_alloc_new w3 _)) (by simp [Value.oneCell']) (by omega) ?c1 ?c2 hbase (w3.heap.size + 1) (by simp) ?_)
        case c1 => unfold maxLen; omega
        case c2 => omega
        intro gc' cc' w6 ho6 hg6 _ _
        have hz := Lib.run_append_nil_zeros (P := Tryd.prog) w6 22 3 22 5 i5 (.int .u8 0) .i64 .i64 Tryd.underlying22 Tryd.underlying3 hi5 hz50 nxn (by omega) (by omega) (by omega) (by rw [hz52]; omega)
        have hge := grownCap_ge w6 nxn 0 5
        have hle := grownCap_le_maxLen w6 nxn 0 5 (by unfold maxLen; omega)
        have hT := hM'.turn hFull ho6 hg6 (w7 := w6.drew.alloc (.cells (Builtin.zeroCells (Value.int .u8 0).cells nxn ++ Builtin.zeroCells (Value.int .u8 0).cells (grownCap w6 nxn 0 5 - nxn)) 5)) (cb' := grownCap w6 nxn 0 5)
          (World.ownsRow_made w6.drew _ _ (Nat.le_refl _) hle (by rw [Array.size_append, size_zeroCells, size_zeroCells, show (Value.int .u8 0).cells.size = 1 from rfl]; omega)) (((Below.refl _ _).drew).alloc (Nat.le_refl _) _) hge hle
        generalize grownCap w6 nxn 0 5 = cb' at hz hge hle hT
        clear ho6 hg6 hM' hbase
        go_wp2_with (at_builtin; refine Lib.wpList_append_run _ rfl _ _ 22 3 rfl _ _ rfl rfl _ _ hz ?_)
        go_roundw
        case rel => exact ⟨w6.heap.size, 0, cb', nxn + nxn / 2, gc', cc', _, _, _, fsn + (lb + n), i', r', q', rfl, by go_num, by simp, by go_num, hT⟩
        case measure => simp [intOf, lenOf]; omega
      · have hRoom : Hid (cb / 16 ≤ cb - (lb + n)) := by show cb / 16 ≤ cb - (lb + n); omega
        clear b2 b3 x1 x2 x3 hroom
        go_wp2
        go_roundw
        case rel => exact ⟨g, lb + n, cb, nxn, gc, cc, us, Cs, _, fsn, i', r', q', rfl, rfl, rfl, rfl, hM', hRoom⟩
        case measure => simp [intOf, lenOf]; omega

end Go.Proofs.Qxb6612454aDoor
