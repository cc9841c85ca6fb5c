/-
  THE WALK of zzFlatten.
-/
import Derived.Test.Qxb6612454aClone
import Derived.Test.Qxb6612454aReads
namespace Go.Proofs.Qxb6612454a
open Go.RowKit

/-- All the pieces' bytes, one behind the other. -/
def flat (D : List Piece) : List Int := (D.map (·.2)).flatten

theorem flat_length (D : List Piece) : (flat D).length = total D D.length := by
  unfold flat total
  rw [List.take_length, List.length_flatten, List.map_map]
  rfl

theorem take_flat (D : List Piece) (k : Nat) : flat (D.take k) ++ flat (D.drop k) = flat D := by
  unfold flat
  rw [← List.flatten_append, ← List.map_append, List.take_append_drop]

theorem flat_take_length (D : List Piece) (k : Nat) : (flat (D.take k)).length = total D k := by
  rw [flat_length]
  unfold total
  rw [List.take_length]

theorem flat_at (D : List Piece) (k j : Nat) (hk : k < D.length) (hj : j < (D.getD k noPiece).2.length) : (flat D).getD (total D k + j) 0 = (D.getD k noPiece).2.getD j 0 := by
  have hd : D.drop k = D.getD k noPiece :: D.drop (k + 1) := by
    rw [List.drop_eq_getElem_cons hk]
    simp [List.getD, hk]
  have e : flat D = flat (D.take k) ++ ((D.getD k noPiece).2 ++ flat (D.drop (k + 1))) := by
    rw [← take_flat D k, hd]
    rfl
  have hl := flat_take_length D k
  rw [e]
  generalize (D.getD k noPiece).2 = C at hj
  simp only [List.getD]
  rw [List.getElem?_append_right (by omega), hl, show total D k + j - total D k = j by omega, List.getElem?_append_left hj]

structure Flat (w w' : World) (D : List Piece) (v : Value) : Prop where
  below : Below w.heap.size w w'
  own : w'.ownsRow w.heap.size 5 1 v (flat D).length (cellsOf (flat D))

/-- What the copying loops hold: the first t bytes are there. -/
structure Part2 (w wr : World) (F : List Int) (N t : Nat) : Prop where
  own : wr.ownsRow w.heap.size 5 1 (.slice (some ⟨w.heap.size, 0, none⟩) N N) N (half F N t)
  below : Below w.heap.size w wr

theorem Part2.store {w wr : World} {F : List Int} {N t : Nat} (h : Part2 w wr F N t) (hF : F.length = N) (ht : t < N) : Part2 w (wr.setCell ⟨w.heap.size, t, none⟩ (.int .u8 (F.getD t 0))) F N (t + 1) :=
  ⟨by rw [← half_set F N t hF ht]; exact (h.own.stored t _).1, h.below.setCell (Nat.le_refl _) _⟩

set_option maxHeartbeats 800000 in
theorem flatten_any (ao : Option Addr) (n cap : Nat) (D : List Piece) (w : World) (hr : ReadsB w ao n cap D) (hn : n ≤ 4096) (ht : total D n ≤ 1048576) :
    Calls Try.prog 14 #[.slice ao n cap] w fun e w' => ∃ ao' cap', e = .returned (.slice ao' (total D n) cap') ∧ Flat w w' D (.slice ao' (total D n) cap') := by
  obtain ⟨i0, hi, hz0, hz1, hz2⟩ := info_parts info5
  have hlen := hr.len
  have hN : (flat D).length = total D n := by rw [flat_length, hlen]
  go_enter Try.func14, Try.ntmps14
  go_wp2
  go_loop [3, 4] (fun s i => ∃ k : Nat, k ≤ n ∧ i = .int .i64 k ∧ s = .int .i64 (total D k)) (fun _ i => n - (intOf i).toNat)
  case atStart => exact ⟨0, Nat.zero_le _, rfl, rfl⟩
  case round =>
    obtain ⟨k, hk, rfl, rfl⟩ := hrel
    rcases Nat.lt_or_ge k n with hlt | hge
    · cases ao with
      | none => have := (hr.nilCase rfl).1; omega
      | some a =>
        obtain ⟨b, off, sp⟩ := a
        obtain ⟨rfl, _, ai, ni, ci, hc, hri, _⟩ := hr.opened hlt
        have hsu := total_succ D k (by omega)
        have hmo := total_mono D (k + 1) n (by omega)
        rw [hri.len] at hsu
        have HS : Hid (total D (k + 1) = total D k + ni) := hsu
        rw [hsu] at hmo
        clear hsu hri hN
        go_wp2
        go_round
        case rel => exact ⟨k + 1, by omega, by go_num, by rw [HS.out]; go_num⟩
        case measure => simp [intOf]; omega
    · obtain rfl : k = n := by omega
      go_wp2_with (at_make; refine wpList_make_full _ rfl _ _ 23 rfl w.heap.size 5 i0 (.int .u8 0) 1 Try.underlying23 hi hz0 hz1 _ _ _ _ (total D k) rfl rfl rfl rfl ?b1 ?b2 ?b3 ?_)
      case b1 => omega
      case b2 => unfold maxLen; omega
      intro w1 hown hgrow
      have R0 : Part2 w w1 (flat D) (total D k) 0 := by
        refine ⟨?_, (Below.refl _ _).grown hgrow (Nat.le_refl _) (by simp)⟩
        rw [half_zero]
        have e : (madeCells #[Value.int .u8 0] (total D k)).toList = List.replicate (total D k) (.int .u8 0) := toList_madeCells_one _ _
        rw [← e]
        simpa using hown
      clear hown hgrow
      go_wp2
      go_loopw [6, 7] (fun t i wr => ∃ j : Nat, j ≤ k ∧ i = .int .i64 j ∧ t = .int .i64 (total D j) ∧ Part2 w wr (flat D) (total D k) (total D j)) (fun _ i _ => k - (intOf i).toNat)
      case atStart => exact ⟨0, Nat.zero_le _, rfl, rfl, R0⟩
      case round =>
        clear R0
        obtain ⟨j, hj, rfl, rfl, hp⟩ := hrel
        rcases Nat.lt_or_ge j k with hlt | hge
        · cases ao with
          | none => have := (hr.nilCase rfl).1; omega
          | some a =>
            obtain ⟨b, off, sp⟩ := a
            obtain ⟨rfl, hblk, ai, ni, ci, hc, hri, _⟩ := hr.opened hlt
            have hsu := total_succ D j (by omega)
            have hmo := total_mono D (j + 1) k (by omega)
            have hln := hri.len
            rw [hln] at hsu
            have HS : Hid (total D (j + 1) = total D j + ni) := hsu
            rw [hsu] at hmo
            clear hsu
            obtain ⟨wo, rfl⟩ : ∃ wo : World, wo = wr := ⟨_, rfl⟩
            go_wp2
            go_loopw [6, 8] (fun t m wr => ∃ x : Nat, x ≤ ni ∧ m = .int .i64 x ∧ t = .int .i64 (total D j + x : Nat) ∧ Part2 w wr (flat D) (total D k) (total D j + x)) (fun _ m _ => ni - (intOf m).toNat)
            case atStart => exact ⟨0, Nat.zero_le _, rfl, rfl, hp⟩
            case round =>
              clear hp
              obtain ⟨x, hx, rfl, rfl, hp⟩ := hrel
              have hcx : wr.cell? ⟨b, off + j, none⟩ = some (.slice ai ni ci) := (hp.below.cell (by exact hblk)).trans hc
              rcases Nat.lt_or_ge x ni with hxl | hxg
              · cases ai with
                | none => have := (hri.nilCase rfl).1; omega
                | some a' =>
                  obtain ⟨b', off', sp'⟩ := a'
                  obtain ⟨rfl, hblk', hc'⟩ := hri.opened hxl
                  have hfa := flat_at D j x (by omega) (by omega)
                  have hst := hp.store hN (by omega)
                  rw [hfa] at hst
                  have hcy : wr.cell? ⟨b', off' + x, none⟩ = some (.int .u8 ((D.getD j noPiece).2.getD x 0)) := (hp.below.cell (by exact hblk')).trans hc'
                  generalize (D.getD j noPiece).2.getD x 0 = y at hst hcy
                  have hcz : wr.cell? ⟨w.heap.size, total D j + x, none⟩ = some (.int .u8 0) := by rw [hp.own.cellAt _ (by omega)]; exact half_at _ _ _ hN (by omega)
                  have hfz : wr.frozen? ⟨w.heap.size, total D j + x, none⟩ = false := hp.own.frozenAt _
                  clear hc' hfa hp hri hc hr
                  generalize hT : total D j + x = T at hst hcz hfz
                  have HT : Hid (total D j + x = T) := hT
                  have hTk : (T : Int) < (total D k : Int) := by omega
                  have hT2 : (T : Int) ≤ 1048576 := by omega
                  clear hT
                  go_wp2
                  go_roundw
                  case rel => exact ⟨x + 1, by omega, by go_num, by rw [← Nat.add_assoc, HT.out]; go_num, by rw [← Nat.add_assoc, HT.out]; exact hst⟩
                  case measure => simp [intOf]; omega
              · obtain rfl : x = ni := by omega
                clear hri hr hc
                go_wp2
                go_roundw
                case rel => exact ⟨j + 1, by omega, by go_num, by rw [HS.out], by rw [HS.out]; exact hp⟩
                case measure => simp [intOf]; omega
        · obtain rfl : j = k := by omega
          have X : Hid (Flat w wr D (.slice (some ⟨w.heap.size, 0, none⟩) (total D j) (total D j))) := ⟨hp.below, by
            have := hp.own
            rw [half_full _ _ hN] at this
            rw [hN]
            exact this⟩
          clear hp hN
          go_wp2
          go_ret
          exact ⟨_, _, rfl, X⟩

end Go.Proofs.Qxb6612454a
