/- The walk of LawS1004CStep where los is not empty. -/
import Derived.Test.YbulkttqStep
namespace Go.Proofs.Ybulkttq
open Go.ChangeShapes Go.WideShapes Go.ChangeAt Go.RowKit

set_option maxRecDepth 100000 in
set_option maxHeartbeats 1000000 in
theorem step_pos (a0 : Int) (zs : List Int) (hzl : zs.length = 32) (b off : Nat) (los : List Int) (n c : Nat) (w : World) (h0 : 0 ≤ a0) (h1 : a0 ≤ 18446744073709551615) (hn0 : 0 < n) (hn : n ≤ 1024)
    (hc : ∀ k, k < n → w.cell? ⟨b, off + k, none⟩ = some (.int .i64 (los.getD k 0))) :
    Calls Yba.prog 3 #[.int .u64 a0, .agg (cellsOf zs), .slice (some ⟨b, off, none⟩) n c] w fun e w' => e = .returned (.bool true) ∧ Below w.heap.size w w' := by
  have HL : Hid ((loadVar 23 ⟨w.heap.size, 0, none⟩).run Yba.prog (w.alloc (.cells (cellsOf zs) 23)) = .ok (arr zs) (w.alloc (.cells (cellsOf zs) 23))) :=
    run_load_part _ _ 0 23 _ _ zs (heap_alloc_new w _) hzl (cells_at zs hzl)
  have HC : Hid (∀ k, k < n → w.cell? ⟨b, off + k, none⟩ = some (.int .i64 (los.getD k 0))) := hc
  have lb := block_lt_of_cell (hc 0 hn0)
  simp only at lb
  clear hc
  have hd : decide (1024 < (n : Int)) = false := by simp; omega
  have hd0 : decide (0 < (n : Int)) = true := by simp; omega
  go_enter Yba.func3, Yba.ntmps3
  go_wp2_with (first | (refine wpList_load_arr rfl _ rfl ⟨w.heap.size, 0, none⟩ zs rfl HL.out ?_) | (refine wpList_build_shard rfl _ _ rfl zs hzl _ rfl rfl ?_))
  have hb0 : Below w.heap.size w ((w.alloc (.cells (cellsOf zs) 23)).alloc (.cells (shardOf zs (a0 / 2)) 40)) := ((Below.refl _ _).alloc (Nat.le_refl _) _).alloc (by simp) _
  refine (region_some los b off n c _ hn (fun k hk => (hb0.cell (p := ⟨b, off + k, none⟩) lb).trans (HC.out k hk))).mono ?_
  rintro e w2 ⟨rfl, hb2, hg2, hh2⟩
  go_wp2_with fail
  have hh2' := hh2 hn0
  rw [World.size_alloc, World.size_alloc] at hb2 hg2 hh2'
  have k0 : w2.heap[w.heap.size]? = some (.cells (cellsOf zs) 23) := by rw [hb2.block _ (by omega)]; exact heap_alloc2_old _ _ _
  have k1 : w2.heap[w.heap.size + 1]? = some (.cells (shardOf zs (a0 / 2)) 40) := by rw [hb2.block _ (by omega)]; exact heap_alloc2_new _ _ _
  have s2 : w.heap.size + 2 ≤ w2.heap.size := by have := hb2.size; simpa using this
  have hB2 : Below w.heap.size w w2 := hb0.trans (hb2.mono (by omega))
  have hsh := shardOf_ok zs hzl (a0 / 2)
  refine (note_some _ _ _ _ n n (a0 / 2) (los.getD 0 0) _ _ (by omega) (by omega) hn0 hg2 hh2' (by rw [cell_of_row _ _ _ _ _ _ k1]; exact hsh.ask) (by rw [cell_of_row _ _ _ _ _ _ k1]; exact hsh.lows _ (by omega)) (fun o => frozen_of_row _ _ _ _ _ k1)).mono ?_
  rintro e w3 ⟨rfl, hb3⟩
  have s3 : w.heap.size + 2 ≤ w3.heap.size := by have := hb3.size; rw [size_setCell, size_setCell] at this; omega
  have hB3 : Below w.heap.size w w3 := ((hB2.setCell (by show w.heap.size ≤ w.heap.size + 1; omega) _).setCell (by show w.heap.size ≤ w.heap.size + 1; omega) _).trans (hb3.mono (by omega))
  have m0 : w3.heap[w.heap.size]? = some (.cells (cellsOf zs) 23) := by
    rw [hb3.block _ (by omega), heap_setCell_other _ _ _ _ (by show w.heap.size ≠ w.heap.size + 1; omega), heap_setCell_other _ _ _ _ (by show w.heap.size ≠ w.heap.size + 1; omega)]; exact k0
  have m1 : w3.heap[w.heap.size + 1]? = some (.cells (((shardOf zs (a0 / 2)).setIfInBounds (6 + (a0 / 2 % 32).toNat) (.int .i64 (los.getD 0 0))).setIfInBounds 38 (.int .i64 (wrap64 (a0 / 2 + 1)))) 40) := by
    rw [hb3.block _ (by omega)]; exact heap_setCell_same _ _ _ _ _ _ (heap_setCell_same _ _ _ _ _ _ k1)
  have hl0 : w3.cell? ⟨b, off, none⟩ = some (.int .i64 (los.getD 0 0)) := (hB3.cell (p := ⟨b, off, none⟩) lb).trans (HC.out 0 hn0)
  have HM : Hid (w3.heap[w.heap.size + 1]? = some (.cells (((shardOf zs (a0 / 2)).setIfInBounds (6 + (a0 / 2 % 32).toNat) (.int .i64 (los.getD 0 0))).setIfInBounds 38 (.int .i64 (wrap64 (a0 / 2 + 1)))) 40)) := m1
  have HB : Hid (Below w.heap.size w w3) := hB3
  have HS : Hid (Shard (shardOf zs (a0 / 2)) zs (a0 / 2)) := hsh
  have HL3 : Hid ((loadVar 23 ⟨w.heap.size, 0, none⟩).run Yba.prog w3 = .ok (arr zs) w3) := run_load_part _ _ 0 23 _ _ zs m0 hzl (cells_at zs hzl)
  clear hb0 hb2 hg2 hh2 hh2' k0 k1 s2 hB2 hsh hb3 hB3 m0 m1 HL
  have lb3 : b < w3.heap.size := by omega
  generalize los.getD 0 0 = l0 at *
  obtain ⟨z, hz⟩ : ∃ z, zs[(a0 / 2 % 32).toNat]? = some z := ⟨_, List.getElem?_eq_getElem (by omega)⟩
  go_wp2_with (first | (refine wpList_load_arr rfl _ rfl ⟨w.heap.size, 0, none⟩ zs rfl HL3.out ?_) | (refine wpList_store_arr (W := w3) rfl _ _ rfl zs hzl _ rfl rfl rfl ?_))
  clear hz
  have hset : ((List.map (Value.int .i64) zs).set (a0 / 2 % 32).toNat (.int .i64 l0)).toArray = cellsOf (zs.set (a0 / 2 % 32).toNat l0) := by unfold cellsOf; rw [List.map_set]
  have hsh2 := HS.out.noted l0 (wrap64 (a0 / 2 + 1))
  obtain ⟨f1, f2, f3, f4, f5, f6, f7⟩ := final_facts (W := w3.alloc (.cells ((List.map (Value.int .i64) zs).set (a0 / 2 % 32).toNat (.int .i64 l0)).toArray 23)) (S := w.heap.size + 1) (B := w3.heap.size) hsh2
    (by rw [Below.heap_alloc _ _ _ (by omega)]; exact HM.out) (by rw [hset]; exact heap_alloc_new w3 _)
  have hB : Below w.heap.size w (w3.alloc (.cells ((List.map (Value.int .i64) zs).set (a0 / 2 % 32).toNat (.int .i64 l0)).toArray 23)) := HB.out.alloc (by omega) _
  have L1 := (show Hid _ from f1)
  have L2 := (show Hid _ from f2)
  have hlen := hsh2.len
  clear f1 f2 HB HM HS hsh2 hset HL3
  generalize w3.alloc (Obj.cells ((List.map (Value.int IntKind.i64) zs).set (a0 / 2 % 32).toNat (Value.int IntKind.i64 l0)).toArray 23) = W at *
  generalize zs.set (a0 / 2 % 32).toNat l0 = ys at *
  have e35 := fun w => run_eql_map_nil (P := Yba.prog) w 35 _ _ none Yba.underlying35
  have e36 := fun w => run_eql_map_nil (P := Yba.prog) w 36 _ _ none Yba.underlying36
  have e37 := fun w => run_eql_map_nil (P := Yba.prog) w 37 _ _ none Yba.underlying37
  refine wp_region_quiet_lit (by kernel_rfl) (by kernel_rfl) ?_
  iterate 3 go_big_quiet_step (fail)
  go_big_quiet_want
  refine quiet_load 23 (.tmp 40) ⟨w.heap.size + 1, 6, none⟩ (arr ys) rfl rfl L1.out ?_
  go_simp
  go_big_quiet_on
  go_big_quiet_want
  refine quiet_load 23 (.tmp 9) ⟨w3.heap.size, 0, none⟩ (arr ys) rfl rfl L2.out ?_
  go_simp
  go_big_quiet_on
  go_big_quiet_want
  refine quiet_eq_arr ys hlen (.tmp 41) (.tmp 42) 23 rfl rfl rfl ?_
  go_simp
  go_big_quiet_on
  repeat go_big_quiet_step (fail)
  refine wpQuiet_nil ?_
  intro _ hw'
  obtain ⟨nq, hw''⟩ := hw'
  subst hw''
  go_wp2
  go_ret
  exact ⟨rfl, ⟨hB.os, hB.tape, hB.output, hB.size, hB.block⟩⟩
end Go.Proofs.Ybulkttq
