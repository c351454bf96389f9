/- (*authz).status -/
import Derived.Test.YbulktwiPlain
import Derived.Deep.RegionWith
import Derived.RegionTactic
import Derived.Deep.DeepCutAuto
namespace Go.Proofs.Ybulktwi
open Go.ChangeShapes Go.WideShapes Go.ChangeAt Go.RowKit

theorem isZero_b (x y : Int) (b : Bool) (w : World) (h : (x == 0 && y == 0) = b) :
    Calls Yba.prog 19 #[.agg #[.int .u64 x, .int .i64 y, .pointer none]] w fun e w' => e = .returned (.bool b) ∧ w.alloc (tb x y) = w' := by
  rw [← h]; exact isZero_any x y w
theorem before_b (x1 y1 x2 y2 : Int) (b : Bool) (w : World) (a0 : 0 ≤ x1) (a1 : x1 < 1000000000) (b0 : 0 ≤ x2) (b1 : x2 < 1000000000) (h : laterB x2 y2 x1 y1 = b) :
    Calls Yba.prog 20 #[.agg #[.int .u64 x1, .int .i64 y1, .pointer none], .agg #[.int .u64 x2, .int .i64 y2, .pointer none]] w fun e w' =>
      e = .returned (.bool b) ∧ (w.alloc (tb x1 y1)).alloc (tb x2 y2) = w' := by
  rw [← h]; exact before_any x1 y1 x2 y2 w a0 a1 b0 b1
theorem after_b (x1 y1 x2 y2 : Int) (b : Bool) (w : World) (a0 : 0 ≤ x1) (a1 : x1 < 1000000000) (b0 : 0 ≤ x2) (b1 : x2 < 1000000000) (h : laterB x1 y1 x2 y2 = b) :
    Calls Yba.prog 16 #[.agg #[.int .u64 x1, .int .i64 y1, .pointer none], .agg #[.int .u64 x2, .int .i64 y2, .pointer none]] w fun e w' =>
      e = .returned (.bool b) ∧ (w.alloc (tb x1 y1)).alloc (tb x2 y2) = w' := by
  rw [← h]; exact after_any x1 y1 x2 y2 w a0 a1 b0 b1

theorem chalBad_drop (now : Int) (chs : List (Int × Int)) (k : Nat) (hk : k < chs.length) :
    chalBad now (chs.drop k) = if (chs.getD k (0, 0)).1 % 4 = 3 then true else if (chs.getD k (0, 0)).1 % 4 = 2 then decide ((chs.getD k (0, 0)).2 ≠ 0 ∧ (chs.getD k (0, 0)).2 ≤ now) else chalBad now (chs.drop (k + 1)) := by
  rw [List.drop_eq_getElem_cons hk, chalBad, List.getD, List.getElem?_eq_getElem hk]
  rfl

theorem authz_deact (a o : Nat) (z : Az) (now : Int) (w : World) (ha : AuthzAt w a o z) (hd : z.1 = true) :
    Calls Yba.prog 17 #[.pointer (some ⟨a, 0, none⟩), .agg #[.int .u64 (now % 1000000000), .int .i64 (now / 1000000000), .pointer none]] w fun e w' =>
      (∃ st, e = .returned (.tuple #[.string st, .pointer none]) ∧ StOk st (azBad now z)) ∧ Below w.heap.size w w' := by
  obtain ⟨v, hv, hp⟩ := ha
  have h5 : w.cell? ⟨a, 5, none⟩ = some (.bool true) := by rw [cell_of_row _ _ _ _ _ _ hv, hd]; rfl
  have lb := lt_of_block hv
  clear hp hv
  go_enter Yba.func17, Yba.ntmps17
  go_wp2
  go_ret2
  exact ⟨⟨sDeactivated, rfl, by simp [StOk, azBad, hd]⟩, (Below.refl _ _).alloc (Nat.le_refl _) _⟩

set_option maxHeartbeats 1000000 in
theorem authz_open (a o : Nat) (z : Az) (now exp : Int) (w : World) (ha : AuthzAt w a o z) (hd : z.1 = false) (hx : ¬ exp < now) (hn : z.2.length ≤ 1024)
    (e7 : w.cell? ⟨o, 7, none⟩ = some (.int .u64 (exp % 1000000000))) (e8 : w.cell? ⟨o, 8, none⟩ = some (.int .i64 (exp / 1000000000))) (e9 : w.cell? ⟨o, 9, none⟩ = some (.pointer none)) :
    Calls Yba.prog 17 #[.pointer (some ⟨a, 0, none⟩), .agg #[.int .u64 (now % 1000000000), .int .i64 (now / 1000000000), .pointer none]] w fun e w' =>
      (∃ st, e = .returned (.tuple #[.string st, .pointer none]) ∧ StOk st (azBad now z)) ∧ Below w.heap.size w w' := by
  obtain ⟨v, hv, hp⟩ := ha
  have h5 : w.cell? ⟨a, 5, none⟩ = some (.bool false) := by rw [cell_of_row _ _ _ _ _ _ hv, hd]; rfl
  have h1 : w.cell? ⟨a, 1, none⟩ = some (.pointer (some ⟨o, 0, none⟩)) := by rw [cell_of_row _ _ _ _ _ _ hv]; rfl
  have h4 : w.cell? ⟨a, 4, none⟩ = some v := by rw [cell_of_row _ _ _ _ _ _ hv]; rfl
  have la := lt_of_block hv
  have lo := block_lt_of_cell e7
  simp only at lo
  have hl : laterB (now % 1000000000) (now / 1000000000) (exp % 1000000000) (exp / 1000000000) = false := by rw [later_floor]; simpa using hx
  have n0 : 0 ≤ now % 1000000000 := by omega
  have n1 : now % 1000000000 < 1000000000 := by omega
  have x0 : 0 ≤ exp % 1000000000 := by omega
  have x1 : exp % 1000000000 < 1000000000 := by omega
  obtain ⟨x, cap, rfl, hk⟩ := hp
  have HK : Hid (∀ k, k < z.2.length → ∃ g, x = some ⟨g, 0, none⟩ ∧ ∃ c, w.cell? ⟨g, k, none⟩ = some (.pointer (some ⟨c, 0, none⟩)) ∧ ChalAt w c (z.2.getD k (0, 0))) := hk
  have HZ : Hid (azBad now z = chalBad now z.2) := by unfold azBad; rw [hd]; rfl
  have HN : Hid (∀ u, laterB (now % 1000000000) (now / 1000000000) (u % 1000000000) (u / 1000000000) = decide (u < now) ∧ laterB (u % 1000000000) (u / 1000000000) (now % 1000000000) (now / 1000000000) = decide (now < u)) := fun u => ⟨later_floor now u, later_floor u now⟩
  clear hk hv hd
  generalize now % 1000000000 = nx at *
  generalize now / 1000000000 = ny at *
  generalize exp % 1000000000 = ex at *
  generalize exp / 1000000000 = ey at *
  generalize hL : z.2.length = n at *
  have HL : Hid (z.2.length = n) := hL
  clear hL
  go_enter Yba.func17, Yba.ntmps17
  go_upto_region 3 with fail
  go_cut [14] (fun s wc => s = .bool false ∧ Below (w.heap.size + 1) (w.alloc (tb nx ny)) wc)
  case first =>
    go_region_with (go_at_call 16; refine (after_b _ _ _ _ false _ n0 n1 x0 x1 hl).mono ?_; rintro e w' ⟨rfl, rfl⟩)
    all_goals
      go_wp2_with fail
      go_meet
      exact ⟨rfl, (((Below.refl _ _).alloc (by simp) _).alloc (by simp) _).drew⟩
  case rest =>
    obtain ⟨rfl, hb⟩ := hcut
    have h4' : wc.cell? ⟨a, 4, none⟩ = some (.slice x n cap) := by
      rw [hb.cell (p := ⟨a, 4, none⟩) (by show a < w.heap.size + 1; omega), World.cell?_of_block (Below.heap_alloc w _ a la)]; exact h4
    clear h4 h1 h5 e7 e8 e9 hl x0 x1
    go_wp2
    go_loopw [29] (fun i wr => ∃ k : Nat, k ≤ n ∧ i = .int .i64 k ∧ Below (w.heap.size + 1) (w.alloc (tb nx ny)) wr ∧ chalBad now z.2 = chalBad now (z.2.drop k)) (fun i _ => n - (intOf i).toNat)
    case atStart => exact ⟨0, by omega, rfl, hb, rfl⟩
    case round =>
      clear hb h4' wc
      obtain ⟨k, hk, rfl, hb, hbad⟩ := hrel
      have HB : Hid (Below (w.heap.size + 1) (w.alloc (tb nx ny)) wr) := hb
      have HBad : Hid (chalBad now z.2 = chalBad now (z.2.drop k)) := hbad
      have hb' : Below w.heap.size w wr := ((Below.refl _ _).alloc (Nat.le_refl _) _).trans (hb.mono (by omega))
      have t0 : wr.cell? ⟨w.heap.size, 0, none⟩ = some (.int .u64 nx) := by rw [hb.cell (p := ⟨w.heap.size, 0, none⟩) (by show w.heap.size < w.heap.size + 1; omega), cell_of_row _ _ _ _ _ _ (heap_alloc_new w (tb nx ny))]; rfl
      have t1 : wr.cell? ⟨w.heap.size, 1, none⟩ = some (.int .i64 ny) := by rw [hb.cell (p := ⟨w.heap.size, 1, none⟩) (by show w.heap.size < w.heap.size + 1; omega), cell_of_row _ _ _ _ _ _ (heap_alloc_new w (tb nx ny))]; rfl
      have t2 : wr.cell? ⟨w.heap.size, 2, none⟩ = some (.pointer none) := by rw [hb.cell (p := ⟨w.heap.size, 2, none⟩) (by show w.heap.size < w.heap.size + 1; omega), cell_of_row _ _ _ _ _ _ (heap_alloc_new w (tb nx ny))]; rfl
      have lw : w.heap.size < wr.heap.size := by have := hb.size; rw [World.size_alloc] at this; omega
      clear hb hbad
      by_cases hlt : k < n
      · obtain ⟨g, rfl, c, hc, ch⟩ := HK.out k hlt
        obtain ⟨av, hblk⟩ := (Kept.of hb').chal ch
        have hc' := (Kept.of hb').cell hc
        have HD := chalBad_drop now z.2 k (by rw [HL.out]; exact hlt)
        have lg := block_lt_of_cell hc'
        simp only at lg
        have lc := lt_of_block hblk
        clear hc ch
        generalize hp : z.2.getD k (0, 0) = p at *
        obtain ⟨s, u⟩ := p
        simp only at hblk HD
        have h44 : s % 4 = 0 ∨ s % 4 = 1 ∨ s % 4 = 2 ∨ s % 4 = 3 := by omega
        rcases h44 with h4 | h4 | h4 | h4
        · have hst : wr.cell? ⟨c, 4, none⟩ = some (.string ⟨#[112, 101, 110, 100, 105, 110, 103]⟩) := by rw [cell_of_row _ _ _ _ _ _ hblk]; simp [chalBlk, stStr, h4, sPending]
          have HD' : Hid (chalBad now (z.2.drop k) = chalBad now (z.2.drop (k + 1))) := by rw [h4] at HD; exact HD
          clear HD h4 hblk hp
          go_wp2
          go_roundw
          case rel => exact ⟨k + 1, by omega, by go_num, HB.out, HBad.out.trans HD'.out⟩
          case measure => simp [intOf]; omega
        · have hst : wr.cell? ⟨c, 4, none⟩ = some (.string ⟨#[112, 114, 111, 99, 101, 115, 115, 105, 110, 103]⟩) := by rw [cell_of_row _ _ _ _ _ _ hblk]; simp [chalBlk, stStr, h4, sProcessing]
          have HD' : Hid (chalBad now (z.2.drop k) = chalBad now (z.2.drop (k + 1))) := by rw [h4] at HD; exact HD
          clear HD h4 hblk hp
          go_wp2
          go_roundw
          case rel => exact ⟨k + 1, by omega, by go_num, HB.out, HBad.out.trans HD'.out⟩
          case measure => simp [intOf]; omega
        · have hst : wr.cell? ⟨c, 4, none⟩ = some (.string ⟨#[118, 97, 108, 105, 100]⟩) := by rw [cell_of_row _ _ _ _ _ _ hblk]; simp [chalBlk, stStr, h4, sValid]
          have c8 : wr.cell? ⟨c, 8, none⟩ = some (.int .u64 (u % 1000000000)) := by rw [cell_of_row _ _ _ _ _ _ hblk]; rfl
          have c9 : wr.cell? ⟨c, 9, none⟩ = some (.int .i64 (u / 1000000000)) := by rw [cell_of_row _ _ _ _ _ _ hblk]; rfl
          have c10 : wr.cell? ⟨c, 10, none⟩ = some (.pointer none) := by rw [cell_of_row _ _ _ _ _ _ hblk]; rfl
          have HD' : Hid (chalBad now (z.2.drop k) = decide (u ≠ 0 ∧ u ≤ now)) := by rw [h4] at HD; exact HD
          have hzf := zero_floor u
          have hlf := (HN.out u).2
          have u0 : 0 ≤ u % 1000000000 := by omega
          have u1 : u % 1000000000 < 1000000000 := by omega
          clear HD h4 hblk hp HN
          generalize u % 1000000000 = ux at *
          generalize u / 1000000000 = uy at *
          by_cases hu : u = 0
          · have hz : (ux == 0 && uy == 0) = true := by rw [hzf]; simpa using hu
            have HU : Hid (u = 0) := hu
            clear hzf hlf hu
            go_wp2_with (go_at_call 19; refine (isZero_b _ _ true _ hz).mono ?_; rintro e w' ⟨rfl, rfl⟩)
            go_ret2
            exact ⟨⟨sValid, rfl, by rw [HZ.out, HBad.out, HD'.out, HU.out]; simp [StOk]⟩, (hb'.alloc (by have := hb'.size; omega) _).alloc (by have := hb'.size; simp; omega) _⟩
          · have hz : (ux == 0 && uy == 0) = false := by rw [hzf]; simpa using hu
            have HU : Hid (¬ u = 0) := hu
            clear hzf hu
            by_cases hnu : now < u
            · have hlb : laterB ux uy nx ny = true := by rw [hlf]; simpa using hnu
              have HNU : Hid (now < u) := hnu
              clear hlf hnu
              go_wp2_with (first | (go_at_call 19; refine (isZero_b _ _ false _ hz).mono ?_; rintro e w' ⟨rfl, rfl⟩) | (go_at_call 20; refine (before_b _ _ _ _ true _ n0 n1 u0 u1 hlb).mono ?_; rintro e w' ⟨rfl, rfl⟩))
              go_ret2
              have HNU' := HNU.out
              exact ⟨⟨sValid, rfl, by rw [HZ.out, HBad.out, HD'.out, decide_eq_false (by omega)]; simp [StOk]⟩, (((hb'.alloc (by have := hb'.size; omega) _).alloc (by have := hb'.size; simp; omega) _).alloc (by have := hb'.size; simp; omega) _).alloc (by have := hb'.size; simp; omega) _⟩
            · have hlb : laterB ux uy nx ny = false := by rw [hlf]; simpa using hnu
              have HNU : Hid (¬ now < u) := hnu
              clear hlf hnu
              go_wp2_with (first | (go_at_call 19; refine (isZero_b _ _ false _ hz).mono ?_; rintro e w' ⟨rfl, rfl⟩) | (go_at_call 20; refine (before_b _ _ _ _ false _ n0 n1 u0 u1 hlb).mono ?_; rintro e w' ⟨rfl, rfl⟩))
              go_ret2
              have HNU' := HNU.out
              exact ⟨⟨sExpired, rfl, by rw [HZ.out, HBad.out, HD'.out, decide_eq_true ⟨HU.out, by omega⟩]; simp [StOk]⟩, (((hb'.alloc (by have := hb'.size; omega) _).alloc (by have := hb'.size; simp; omega) _).alloc (by have := hb'.size; simp; omega) _).alloc (by have := hb'.size; simp; omega) _⟩
        · have hst : wr.cell? ⟨c, 4, none⟩ = some (.string ⟨#[105, 110, 118, 97, 108, 105, 100]⟩) := by rw [cell_of_row _ _ _ _ _ _ hblk]; simp [chalBlk, stStr, h4, sInvalid]
          have hst13 : wr.cell? ⟨c, 13, none⟩ = some (.pointer none) := by rw [cell_of_row _ _ _ _ _ _ hblk]; rfl
          have HD' : Hid (chalBad now (z.2.drop k) = true) := by rw [h4] at HD; exact HD
          clear HD h4 hblk hp
          go_wp2
          go_region
          all_goals
            go_wp2
            go_ret2
            exact ⟨⟨sInvalid, rfl, by rw [HZ.out, HBad.out, HD'.out]; simp [StOk]⟩, hb'.drew⟩
      · go_wp2
        go_ret2
        exact ⟨⟨sPending, rfl, by rw [HZ.out, HBad.out, List.drop_eq_nil_of_le (by rw [HL.out]; omega)]; simp [StOk, chalBad]⟩, hb'⟩
end Go.Proofs.Ybulktwi
