/- The walk of LawS1004CStep. -/
import Derived.Test.YbulkttqShard
namespace Go.Proofs.Ybulkttq
open Go.ChangeShapes Go.WideShapes Go.ChangeAt Go.RowKit

/-- a region whose bounds are empty -/
def EmptyTop (w : World) (top : Value) : Prop := top = .pointer none ∨ ∃ g x c, top = .pointer (some ⟨g, 0, none⟩) ∧ w.cell? ⟨g, 2, none⟩ = some (.slice x 0 c)

theorem note_empty (s : Value) (b g : Nat) (x : Option Addr) (c : Nat) (w : World) (hg : w.cell? ⟨g, 2, none⟩ = some (.slice x 0 c)) :
    Calls Yba.prog 5 #[.pointer (some ⟨b, 0, none⟩), .agg #[s, .pointer (some ⟨g, 0, none⟩)]] w fun e w' => e = .returned (.tuple #[]) ∧ Below w.heap.size w w' := by
  have lg := block_lt_of_cell hg
  simp only at lg
  go_enter Yba.func5, Yba.ntmps5
  go_wp2_with fail
  refine (bounds_some _ _ g _ (by rw [World.cell?_of_block (Below.heap_alloc w _ g lg)]; exact hg) (by simp; omega)).mono ?_
  rintro e w1 ⟨rfl, hw⟩
  subst hw
  go_wp2
  go_end0
  exact ⟨rfl, ((Below.refl _ _).alloc (Nat.le_refl _) _).alloc (by simp) _⟩

theorem note_zero (s : Value) (b : Nat) (top : Value) (w : World) (h : EmptyTop w top) :
    Calls Yba.prog 5 #[.pointer (some ⟨b, 0, none⟩), .agg #[s, top]] w fun e w' => e = .returned (.tuple #[]) ∧ Below w.heap.size w w' := by
  rcases h with rfl | ⟨g, x, c, rfl, hg⟩
  · exact note_nil s b w
  · exact note_empty s b g x c w hg

theorem region_empty (x : Addr) (c : Nat) (w : World) :
    Calls Yba.prog 6 #[.slice (some x) 0 c] w fun e w' => e = .returned (.agg #[.pointer none, .pointer (some ⟨w.heap.size + 2, 0, none⟩)]) ∧ Below w.heap.size w w'
      ∧ w'.cell? ⟨w.heap.size + 2, 2, none⟩ = some (.slice (some ⟨w.heap.size + 1, 0, none⟩) 0 0) := by
  have hq := fun w => Lib.run_eql_slice_nil (P := Yba.prog) w 24 2 (some x) 0 c 0 0 Yba.underlying24
  have hmk : ∀ w, (Instr.makeSlice 50 (.int .i64 0) (.int .i64 0)).run Yba.prog w = .ok (.slice (some ⟨w.heap.size, 0, none⟩) 0 0) (w.alloc (.cells (made 0) 53)) := run_mk 0 (by omega)
  go_enter Yba.func6, Yba.ntmps6
  go_wp2
  clear hmk hq
  refine wp_loop_rounds 1 ?_
  rw [rounds_succ]
  go_wp2
  exact bodyPost_ret (v := .agg #[.pointer none, .pointer (some ⟨w.heap.size + 2, 0, none⟩)]) (by simp [results, Yba.results6, go_sem]) rfl
    ⟨rfl, (((Below.refl _ _).alloc (Nat.le_refl _) _).alloc (by simp) _).alloc (by simp; omega) _, by simp [go_sem]⟩

theorem region_zero (a1 : Option Addr) (c : Nat) (w : World) :
    Calls Yba.prog 6 #[.slice a1 0 c] w fun e w' => ∃ top, e = .returned (.agg #[.pointer none, top]) ∧ Below w.heap.size w w' ∧ EmptyTop w' top := by
  cases a1 with
  | none => exact (region_nil w c).mono fun e w' ⟨he, hb⟩ => ⟨_, he, hb, .inl rfl⟩
  | some x => exact (region_empty x c w).mono fun e w' ⟨he, hb, hc⟩ => ⟨_, he, hb, .inr ⟨_, _, _, rfl, hc⟩⟩

/-- the cells of a row of numbers -/
def cellsOf (zs : List Int) : Array Value := (zs.map (Value.int .i64)).toArray

theorem cells_at (zs : List Int) (hz : zs.length = 32) (j : Nat) (hj : j < 32) : (cellsOf zs)[0 + j]? = some (.int .i64 (zs.getD j 0)) := by
  unfold cellsOf
  rw [Nat.zero_add, List.getElem?_toArray, List.getElem?_map, List.getD, List.getElem?_eq_getElem (by omega)]
  rfl

theorem final_facts {W : World} {S B : Nat} {cs : Array Value} {ys : List Int} {q : Int} (sh : Shard cs ys q) (k1 : W.heap[S]? = some (.cells cs 40)) (k2 : W.heap[B]? = some (.cells (cellsOf ys) 23)) :
    (∀ n, (loadVar 23 ⟨S, 6, none⟩).run Yba.prog (W.drewN n) = .ok (arr ys) (W.drewN n)) ∧ (∀ n, (loadVar 23 ⟨B, 0, none⟩).run Yba.prog (W.drewN n) = .ok (arr ys) (W.drewN n)) ∧
    W.cell? ⟨S, 38, none⟩ = some (.int .i64 q) ∧ W.cell? ⟨S, 2, none⟩ = some (.pointer none) ∧ W.cell? ⟨S, 3, none⟩ = some (.map none) ∧ W.cell? ⟨S, 4, none⟩ = some (.map none) ∧ W.cell? ⟨S, 5, none⟩ = some (.map none) := by
  refine ⟨fun n => run_load_part _ _ 6 40 cs _ ys k1 sh.len sh.lows, fun n => run_load_part _ _ 0 23 _ _ ys k2 sh.len (cells_at ys sh.len), ?_, ?_, ?_, ?_, ?_⟩
  · rw [cell_of_row _ _ _ _ _ _ k1]; exact sh.ask
  · rw [cell_of_row _ _ _ _ _ _ k1]; exact sh.table
  · rw [cell_of_row _ _ _ _ _ _ k1]; exact sh.made
  · rw [cell_of_row _ _ _ _ _ _ k1]; exact sh.opened
  · rw [cell_of_row _ _ _ _ _ _ k1]; exact sh.held

set_option maxRecDepth 100000 in
set_option maxHeartbeats 1000000 in
theorem step_zero (a0 : Int) (zs : List Int) (hzl : zs.length = 32) (a1 : Option Addr) (c : Nat) (w : World) (h0 : 0 ≤ a0) (h1 : a0 ≤ 18446744073709551615) :
    Calls Yba.prog 3 #[.int .u64 a0, .agg (cellsOf zs), .slice a1 0 c] w fun e w' => e = .returned (.bool true) ∧ Below w.heap.size w w' := by
  have HL : Hid ((loadVar 23 ⟨w.heap.size, 0, none⟩).run Yba.prog (w.alloc (.cells (cellsOf zs) 23)) = .ok (arr zs) (w.alloc (.cells (cellsOf zs) 23))) :=
    run_load_part _ _ 0 23 _ _ zs (heap_alloc_new w _) hzl (cells_at zs hzl)
  go_enter Yba.func3, Yba.ntmps3
  go_wp2_with (first | (refine wpList_load_arr rfl _ rfl ⟨w.heap.size, 0, none⟩ zs rfl HL.out ?_) | (refine wpList_build_shard rfl _ _ rfl zs hzl _ rfl rfl ?_))
  refine (region_zero a1 c _).mono ?_
  rintro e w2 ⟨top, rfl, hb2, ht⟩
  go_wp2_with fail
  refine (note_zero _ _ _ _ ht).mono ?_
  rintro e w3 ⟨rfl, hb3⟩
  clear HL ht
  rw [World.size_alloc, World.size_alloc] at hb2
  have hb : Below (w.heap.size + 1 + 1) ((w.alloc (.cells (cellsOf zs) 23)).alloc (.cells (shardOf zs (a0 / 2)) 40)) w3 := hb2.trans (hb3.mono (by have := hb2.size; rw [World.size_alloc, World.size_alloc] at this; exact this))
  clear hb2 hb3
  have k0 : w3.heap[w.heap.size]? = some (.cells (cellsOf zs) 23) := by rw [hb.block _ (by omega)]; exact heap_alloc2_old _ _ _
  have k1 : w3.heap[w.heap.size + 1]? = some (.cells (shardOf zs (a0 / 2)) 40) := by rw [hb.block _ (by omega)]; exact heap_alloc2_new _ _ _
  have HL : Hid ((loadVar 23 ⟨w.heap.size, 0, none⟩).run Yba.prog w3 = .ok (arr zs) w3) := run_load_part _ _ 0 23 _ _ zs k0 hzl (cells_at zs hzl)
  have K : Hid (w3.heap[w.heap.size]? = some (.cells (cellsOf zs) 23) ∧ w3.heap[w.heap.size + 1]? = some (.cells (shardOf zs (a0 / 2)) 40)) := ⟨k0, k1⟩
  have HB : Hid (Below w.heap.size w w3 ∧ w.heap.size + 2 ≤ w3.heap.size) := ⟨(((Below.refl _ _).alloc (Nat.le_refl _) _).alloc (by simp) _).trans (hb.mono (by omega)), by have := hb.size; simpa using this⟩
  clear hb k0 k1
  go_wp2_with (first | (refine wpList_load_arr rfl _ rfl ⟨w.heap.size, 0, none⟩ zs rfl HL.out ?_) | (refine wpList_store_arr (W := w3) rfl _ _ rfl zs hzl _ rfl rfl rfl ?_))
  obtain ⟨f1, f2, f3, f4, f5, f6, f7⟩ := final_facts (W := w3.alloc (.cells (List.map (Value.int .i64) zs).toArray 23)) (S := w.heap.size + 1) (B := w3.heap.size) (shardOf_ok zs hzl (a0 / 2))
    (by rw [Below.heap_alloc _ _ _ (by have := HB.out.2; omega)]; exact K.out.2) (heap_alloc_new w3 _)
  have hB : Below w.heap.size w (w3.alloc (.cells (List.map (Value.int .i64) zs).toArray 23)) := HB.out.1.alloc (by have := HB.out.2; omega) _
  have L1 := (show Hid _ from f1)
  have L2 := (show Hid _ from f2)
  clear f1 f2 HB K HL
  generalize w3.alloc (Obj.cells (List.map (Value.int IntKind.i64) zs).toArray 23) = W at *
  have e35 := fun w => run_eql_map_nil (P := Yba.prog) w 35 _ _ none Yba.underlying35
  have e36 := fun w => run_eql_map_nil (P := Yba.prog) w 36 _ _ none Yba.underlying36
  have e37 := fun w => run_eql_map_nil (P := Yba.prog) w 37 _ _ none Yba.underlying37
  refine wp_region_quiet_lit (by kernel_rfl) (by kernel_rfl) ?_
  iterate 3 go_big_quiet_step (fail)
  go_big_quiet_want
  refine quiet_load 23 (.tmp 40) ⟨w.heap.size + 1, 6, none⟩ (arr zs) rfl rfl L1.out ?_
  go_simp
  go_big_quiet_on
  go_big_quiet_want
  refine quiet_load 23 (.tmp 9) ⟨w3.heap.size, 0, none⟩ (arr zs) rfl rfl L2.out ?_
  go_simp
  go_big_quiet_on
  go_big_quiet_want
  refine quiet_eq_arr zs hzl (.tmp 41) (.tmp 42) 23 rfl rfl rfl ?_
  go_simp
  go_big_quiet_on
  repeat go_big_quiet_step (fail)
  refine wpQuiet_nil ?_
  intro _ hw'
  obtain ⟨nq, hw''⟩ := hw'
  subst hw''
  go_wp2
  go_ret
  exact ⟨rfl, ⟨hB.os, hB.tape, hB.output, hB.size, hB.block⟩⟩
end Go.Proofs.Ybulkttq
