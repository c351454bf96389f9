import Derived.Test.YbulkttqRegion
import Derived.Test.YbulkttqZero
import Derived.Test.YbulkttqArr
import Derived.Deep.QuietTactic
import Derived.BigQuiet
namespace Go.Proofs.Ybulkttq
open Go.ChangeShapes Go.WideShapes Go.ChangeAt Go.RowKit

/-- What the ring's two blocks hold: the shard 'cs' and the wanted array 'ws', m notes counted -/
structure RingInv (cs ws : Array Value) (m : Int) : Prop where
  size : cs.size = 167
  ask : cs[38]? = some (.int .i64 m)
  row : ∃ ys : List Int, ys.length = 32 ∧ ws = (ys.map (Value.int .i64)).toArray ∧ ∀ j, j < 32 → cs[6 + j]? = some (.int .i64 (ys.getD j 0))

/-- where the ring stands in memory: block S = w.heap.size the shard, block S + 1 the wanted array -/
def RingAt (w wr : World) (m : Int) : Prop :=
  Below w.heap.size w wr ∧ w.heap.size + 2 ≤ wr.heap.size ∧ ∃ cs ws, wr.heap[w.heap.size]? = some (.cells cs 40) ∧ wr.heap[w.heap.size + 1]? = some (.cells ws 23) ∧ RingInv cs ws m

theorem ring_start (w : World) (m : Int) : RingAt w ((w.alloc (.cells (zshard.setIfInBounds 38 (.int .i64 m)) 40)).alloc (.cells (((List.replicate 32 (0 : Int)).map (Value.int .i64)).toArray) 23)) m := by
  refine ⟨((Below.refl _ _).alloc (Nat.le_refl _) _).alloc (by simp) _, by simp, _, _, heap_alloc2_old _ _ _, heap_alloc2_new _ _ _, ?_⟩
  refine ⟨by simp [zshard_size], ?_, ⟨List.replicate 32 0, by simp, rfl, ?_⟩⟩
  · rw [Array.getElem?_setIfInBounds_self_of_lt (by rw [zshard_size]; decide)]
  · intro j hj
    rw [Array.getElem?_setIfInBounds_ne (by omega), zshard_lows j hj]
    simp only [List.getD, List.getElem?_replicate, hj, if_true, Option.getD_some]

theorem ring_keep {w wr w2 : World} {m : Int} (h : RingAt w wr m) (hb : Below wr.heap.size wr w2) : RingAt w w2 m := by
  obtain ⟨h1, h2, cs, ws, h3, h4, h5⟩ := h
  exact ⟨h1.trans (hb.mono (by omega)), Nat.le_trans h2 hb.size, cs, ws, by rw [hb.block _ (by omega)]; exact h3, by rw [hb.block _ (by omega)]; exact h4, h5⟩

theorem ring_cells {w wr : World} {m : Int} (h : RingAt w wr m) :
    wr.cell? ⟨w.heap.size, 38, none⟩ = some (.int .i64 m) ∧ (∃ v, wr.cell? ⟨w.heap.size, 6 + (m % 32).toNat, none⟩ = some v) ∧ (∀ o, wr.frozen? ⟨w.heap.size, o, none⟩ = false) ∧
    (∃ v, wr.cell? ⟨w.heap.size + 1, (m % 32).toNat, none⟩ = some v) ∧ (∀ o, wr.frozen? ⟨w.heap.size + 1, o, none⟩ = false) := by
  obtain ⟨h1, h2, cs, ws, h3, h4, ⟨s1, s2, ys, s3, s4, s5⟩⟩ := h
  refine ⟨by rw [cell_of_row _ _ _ _ _ _ h3]; exact s2, ⟨_, by rw [cell_of_row _ _ _ _ _ _ h3]; exact s5 _ (by omega)⟩, fun o => frozen_of_row _ _ _ _ _ h3, ?_, fun o => frozen_of_row _ _ _ _ _ h4⟩
  have hw : (m % 32).toNat < ws.size := by rw [s4]; simp; omega
  exact ⟨ws[(m % 32).toNat], by rw [cell_of_row _ _ _ _ _ _ h4]; exact Array.getElem?_eq_getElem hw⟩

theorem ring_step {w wr w2 : World} {m l : Int} (h : RingAt w wr m) (hm : 0 ≤ m) (hm2 : m ≤ 1000000)
    (hb : Below wr.heap.size ((wr.setCell ⟨w.heap.size, 6 + (m % 32).toNat, none⟩ (.int .i64 l)).setCell ⟨w.heap.size, 38, none⟩ (.int .i64 (wrap64 (m + 1)))) w2) :
    RingAt w (w2.setCell ⟨w.heap.size + 1, (m % 32).toNat, none⟩ (.int .i64 l)) (m + 1) := by
  obtain ⟨h1, h2, cs, ws, h3, h4, ⟨s1, s2, ys, s3, s4, s5⟩⟩ := h
  have hwm : wrap64 (m + 1) = m + 1 := by unfold wrap64; omega
  rw [hwm] at hb
  have hsz : wr.heap.size ≤ w2.heap.size := by have := hb.size; rw [size_setCell, size_setCell] at this; exact this
  refine ⟨?_, by rw [size_setCell]; omega, (cs.setIfInBounds (6 + (m % 32).toNat) (.int .i64 l)).setIfInBounds 38 (.int .i64 (m + 1)), ws.setIfInBounds (m % 32).toNat (.int .i64 l), ?_, ?_, ?_⟩
  · refine Below.setCell ?_ (by show w.heap.size ≤ w.heap.size + 1; omega) _
    exact ((h1.setCell (Nat.le_refl _) _).setCell (Nat.le_refl _) _).trans (hb.mono (by omega))
  · rw [heap_setCell_other _ _ _ _ (by show w.heap.size ≠ w.heap.size + 1; omega), hb.block _ (by omega)]
    exact heap_setCell_same _ _ _ _ _ _ (heap_setCell_same _ _ _ _ _ _ h3)
  · refine heap_setCell_same _ _ _ _ _ _ ?_
    rw [hb.block _ (by omega), heap_setCell_other _ _ _ _ (by show w.heap.size + 1 ≠ w.heap.size; omega), heap_setCell_other _ _ _ _ (by show w.heap.size + 1 ≠ w.heap.size; omega)]
    exact h4
  · refine ⟨by simpa using s1, ?_, ys.set (m % 32).toNat l, by simpa using s3, ?_, ?_⟩
    · rw [Array.getElem?_setIfInBounds_self_of_lt (by simp [s1])]
    · rw [s4]; simp [List.map_set]
    · intro j hj
      rw [Array.getElem?_setIfInBounds_ne (by omega)]
      by_cases e : j = (m % 32).toNat
      · subst e
        rw [Array.getElem?_setIfInBounds_self_of_lt (by omega)]
        rw [List.getD, List.getElem?_set_self (by omega)]
        rfl
      · rw [Array.getElem?_setIfInBounds_ne (by omega), s5 j hj]
        rw [List.getD, List.getD, List.getElem?_set_ne (Ne.symm e)]

theorem ring_want {w wr w2 : World} {m l q : Int} (h : RingAt w wr m) (a : Nat)
    (hb : Below wr.heap.size ((wr.setCell ⟨w.heap.size, a, none⟩ (.int .i64 l)).setCell ⟨w.heap.size, 38, none⟩ (.int .i64 q)) w2) :
    (∃ v, w2.cell? ⟨w.heap.size + 1, (m % 32).toNat, none⟩ = some v) ∧ (∀ o, w2.frozen? ⟨w.heap.size + 1, o, none⟩ = false) := by
  obtain ⟨h1, h2, cs, ws, h3, h4, ⟨s1, s2, ys, s3, s4, s5⟩⟩ := h
  have h4' : w2.heap[w.heap.size + 1]? = some (.cells ws 23) := by
    rw [hb.block _ (by omega), heap_setCell_other _ _ _ _ (by show w.heap.size + 1 ≠ w.heap.size; omega), heap_setCell_other _ _ _ _ (by show w.heap.size + 1 ≠ w.heap.size; omega)]
    exact h4
  have hw : (m % 32).toNat < ws.size := by rw [s4]; simp; omega
  exact ⟨⟨ws[(m % 32).toNat], by rw [cell_of_row _ _ _ _ _ _ h4']; exact Array.getElem?_eq_getElem hw⟩, fun o => frozen_of_row _ _ _ _ _ h4'⟩

theorem ring_loads {w wr : World} {m : Int} (h : RingAt w wr m) : wr.cell? ⟨w.heap.size, 38, none⟩ = some (.int .i64 m) ∧ ∃ ys : List Int, ys.length = 32 ∧
    (∀ n, (loadVar 23 ⟨w.heap.size, 6, none⟩).run Yba.prog (wr.drewN n) = .ok (arr ys) (wr.drewN n)) ∧ (∀ n, (loadVar 23 ⟨w.heap.size + 1, 0, none⟩).run Yba.prog (wr.drewN n) = .ok (arr ys) (wr.drewN n)) := by
  obtain ⟨h1, h2, cs, ws, h3, h4, ⟨s1, s2, ys, s3, s4, s5⟩⟩ := h
  refine ⟨by rw [cell_of_row _ _ _ _ _ _ h3]; exact s2, ys, s3, fun n => run_load_part _ _ 6 40 cs _ ys h3 s3 s5, fun n => run_load_part _ _ 0 23 ws _ ys h4 s3 ?_⟩
  intro j hj
  rw [s4, Nat.zero_add, List.getElem?_toArray, List.getElem?_map, List.getD, List.getElem?_eq_getElem (by omega)]
  rfl

set_option maxRecDepth 100000 in
set_option maxHeartbeats 1000000 in
theorem ring (a0 : Int) (a1 : Option Addr) (n c : Nat) (zs : List Int) (w : World) (h0 : 0 ≤ a0) (h1 : a0 ≤ 65535) (hn : n ≤ 1024)
    (ha : 0 < n → ∃ b off, a1 = some ⟨b, off, none⟩ ∧ ∀ k, k < n → w.cell? ⟨b, off + k, none⟩ = some (.int .i64 (zs.getD k 0))) :
    Calls Yba.prog 4 #[.int .u16 a0, .slice a1 n c] w fun e w' => e = .returned (.bool true) ∧ Below w.heap.size w w' := by
  have HA : Hid (0 < n → ∃ b off, a1 = some ⟨b, off, none⟩ ∧ ∀ k, k < n → w.cell? ⟨b, off + k, none⟩ = some (.int .i64 (zs.getD k 0))) := ha
  clear ha
  have hz := zero40
  have hzs := zshard_size
  have hd : decide (1024 < (n : Int)) = false := by simp; omega
  go_enter Yba.func4, Yba.ntmps4
  go_wp2
  clear hz hzs
  go_loopw [7, 21] (fun q i wr => ∃ (k : Nat) (m : Int), k ≤ n ∧ i = .int .i64 k ∧ q = .int .i64 m ∧ 0 ≤ m ∧ m ≤ a0 + k ∧ RingAt w wr m) (fun _ i _ => n - (intOf i).toNat)
  case atStart => exact ⟨0, a0, by omega, rfl, rfl, h0, by omega, ring_start w a0⟩
  case round =>
    obtain ⟨k, m, hk, rfl, rfl, hm0, hm1, hR⟩ := hrel
    by_cases hlt : k < n
    · obtain ⟨b, off, hab, hcell⟩ := HA.out (by omega)
      have hl := hcell k hlt
      have hl' := (hR.1.cell (p := ⟨b, off + k, none⟩) (block_lt_of_cell hl)).trans hl
      clear hl hcell
      subst hab
      generalize zs.getD k 0 = l at *
      by_cases h3 : (l.tmod 3 == 0) = true
      · go_wp2_with fail
        refine (note_nil _ _ _).mono ?_
        rintro e w2 ⟨rfl, hb2⟩
        have hR2 := ring_keep hR hb2
        clear hR hb2 hl'
        go_wp2
        go_roundw
        case rel => exact ⟨k + 1, m, by omega, by go_num, rfl, hm0, by omega, hR2⟩
        case measure => simp [intOf]; omega
      · have h3' : (l.tmod 3 == 0) = false := by simpa using h3
        clear h3
        go_wp2_with fail
        refine (region_some [l, wrap64 (l + 7)] wr.heap.size 0 2 2 _ (by omega) ?hc).mono ?_
        case hc => 
          intro j hj
          have : j = 0 ∨ j = 1 := by omega
          rcases this with rfl | rfl <;> simp [World.cell?_alloc_new]
        rintro e w3 ⟨rfl, hb3, hg3, hh3⟩
        go_wp2_with fail
        have hb3' : Below wr.heap.size wr w3 := ((Below.refl _ _).alloc (Nat.le_refl _) _).trans (hb3.mono (by simp))
        have hR3 := ring_keep hR hb3'
        obtain ⟨q1, ⟨v0, q2⟩, q3, _, _⟩ := ring_cells hR3
        rw [World.size_alloc] at hg3 hh3
        have hh3' : w3.cell? ⟨wr.heap.size + 1 + 1, 0, none⟩ = some (.int .i64 l) := hh3 (by omega)
        refine (note_some _ _ _ _ 2 2 m l v0 _ hm0 (by omega) (by omega) hg3 hh3' q1 q2 q3).mono ?_
        rintro e w4 ⟨rfl, hb4⟩
        obtain ⟨⟨v4, q6⟩, q7⟩ := ring_want hR3 _ hb4
        have HR : Hid (RingAt w (w4.setCell ⟨w.heap.size + 1, (m % 32).toNat, none⟩ (.int .i64 l)) (m + 1)) := ring_step hR3 hm0 (by omega) hb4
        clear hb4 hb3 hb3' hR3 hR hg3 hh3 hh3' q1 q2 q3 hl'
        go_wp2
        go_roundw
        case rel => exact ⟨k + 1, m + 1, by omega, by go_num, rfl, by omega, by omega, HR.out⟩
        case measure => simp [intOf]; omega
    · have hB := hR.1
      obtain ⟨q1, ys, hys, l1, l2⟩ := ring_loads hR
      have L1 : Hid (∀ n, (loadVar 23 ⟨w.heap.size, 6, none⟩).run Yba.prog (wr.drewN n) = .ok (arr ys) (wr.drewN n)) := l1
      have L2 : Hid (∀ n, (loadVar 23 ⟨w.heap.size + 1, 0, none⟩).run Yba.prog (wr.drewN n) = .ok (arr ys) (wr.drewN n)) := l2
      clear l1 l2 hR
      go_wp2_with fail
      refine wp_region_quiet_lit (by kernel_rfl) (by kernel_rfl) ?_
      iterate 10 go_big_quiet_step (fail)
      go_big_quiet_want
      refine quiet_load 23 (.tmp 54) ⟨w.heap.size, 6, none⟩ (arr ys) rfl rfl L1.out ?_
      go_simp
      go_big_quiet_on
      go_big_quiet_want
      refine quiet_load 23 (.tmp 6) ⟨w.heap.size + 1, 0, none⟩ (arr ys) rfl rfl L2.out ?_
      go_simp
      go_big_quiet_on
      go_big_quiet_want
      refine quiet_eq_arr ys hys (.tmp 55) (.tmp 56) 23 rfl rfl rfl ?_
      go_simp
      go_big_quiet_on
      iterate 2 go_big_quiet_step (fail)
      refine wpQuiet_nil ?_
      intro _ hw'
      obtain ⟨nq, hw''⟩ := hw'
      subst hw''
      go_wp2
      go_ret
      exact ⟨rfl, ⟨hB.os, hB.tape, hB.output, hB.size, hB.block⟩⟩
end Go.Proofs.Ybulkttq
