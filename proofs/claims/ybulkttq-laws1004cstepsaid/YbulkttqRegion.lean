import Derived.Test.YbulkttqNote
namespace Go.Proofs.Ybulkttq
open Go.ChangeShapes Go.WideShapes Go.ChangeAt Go.RowKit

/-- the cells of a fresh row of n spans -/
def made (n : Nat) : Array Value := madeCells #[.int .i64 0, .int .i64 0] (n * 2)

theorem info53 : (Yba.prog.info? 53).map (fun i => (i.zero, i.size, i.bytes)) = some (some (.agg #[.int .i64 0, .int .i64 0]), 2, 16) := by kernel_rfl

theorem run_mk (n : Nat) (hn : n ≤ 1024) (w : World) :
    (Instr.makeSlice 50 (.int .i64 n) (.int .i64 n)).run Yba.prog w = .ok (.slice (some ⟨w.heap.size, 0, none⟩) n n) (w.alloc (.cells (made n) 53)) := by
  obtain ⟨i, hi, hz⟩ := Option.map_eq_some_iff.1 info53
  simp only [Prod.mk.injEq] at hz
  obtain ⟨h1, h2, h3⟩ := hz
  have := run_make w 50 53 i _ Yba.underlying50 hi h1 .i64 .i64 (n : Int) (n : Int) (by omega) (by omega) (by rw [h3]; omega) (by omega)
  rw [h2] at this
  simpa [made, Value.cells] using this

theorem made_size (n : Nat) : (made n).size = n * 2 := by simp [made, madeCells]

theorem size_setCell (w : World) (a : Addr) (v : Value) : (w.setCell a v).heap.size = w.heap.size := by simp [World.setCell]

/-- a round of the region's loop: the two cells of span k are stored -/
theorem round_ok (w wr : World) (zs : List Int) (n k : Nat) (cs : Array Value) (x : Value) (hlt : k < n) (hb : Below w.heap.size w wr)
    (h0 : wr.heap[w.heap.size]? = some (.cells #[.pointer none, .pointer none] 45)) (h1 : wr.heap[w.heap.size + 1]? = some (.cells cs 53)) (hsz : wr.heap.size = w.heap.size + 2)
    (hcs : cs.size = n * 2) (hfst : 0 < k → cs[0]? = some (.int .i64 (zs.getD 0 0))) :
    ∃ (k1 : Nat) (cs : Array Value), k1 ≤ n ∧ Value.int .i64 ((k : Int) + 1) = .int .i64 (k1 : Int) ∧
      Below w.heap.size w ((wr.setCell ⟨w.heap.size + 1, k * 2, none⟩ (.int .i64 (zs[k]?.getD 0))).setCell ⟨w.heap.size + 1, k * 2 + 1, none⟩ x) ∧
      ((wr.setCell ⟨w.heap.size + 1, k * 2, none⟩ (.int .i64 (zs[k]?.getD 0))).setCell ⟨w.heap.size + 1, k * 2 + 1, none⟩ x).heap.size = w.heap.size + 2 ∧
      ((wr.setCell ⟨w.heap.size + 1, k * 2, none⟩ (.int .i64 (zs[k]?.getD 0))).setCell ⟨w.heap.size + 1, k * 2 + 1, none⟩ x).heap[w.heap.size]? = some (.cells #[.pointer none, .pointer none] 45) ∧
      ((wr.setCell ⟨w.heap.size + 1, k * 2, none⟩ (.int .i64 (zs[k]?.getD 0))).setCell ⟨w.heap.size + 1, k * 2 + 1, none⟩ x).heap[w.heap.size + 1]? = some (.cells cs 53) ∧
      cs.size = n * 2 ∧ (0 < k1 → cs[0]? = some (.int .i64 (zs.getD 0 0))) := by
  refine ⟨k + 1, (cs.setIfInBounds (k * 2) (.int .i64 (zs[k]?.getD 0))).setIfInBounds (k * 2 + 1) x, by omega, by rw [Int.natCast_add]; rfl, ?_, ?_, ?_, ?_, ?_, ?_⟩
  · exact (hb.setCell (by show w.heap.size ≤ w.heap.size + 1; omega) _).setCell (by show w.heap.size ≤ w.heap.size + 1; omega) _
  · rw [size_setCell, size_setCell]; exact hsz
  · rw [heap_setCell_other _ _ _ _ (by show w.heap.size ≠ w.heap.size + 1; omega), heap_setCell_other _ _ _ _ (by show w.heap.size ≠ w.heap.size + 1; omega)]; exact h0
  · exact heap_setCell_same _ _ _ _ _ _ (heap_setCell_same _ _ _ _ _ _ h1)
  · simpa using hcs
  · intro _
    rw [Array.getElem?_setIfInBounds_ne (by omega)]
    by_cases hk : k = 0
    · subst hk
      rw [show 0 * 2 = 0 from rfl, Array.getElem?_setIfInBounds_self_of_lt (by omega)]
      simp
    · rw [Array.getElem?_setIfInBounds_ne (by omega)]
      exact hfst (by omega)

/-- behind the loop: the form is laid, the result's cells are stored -/
theorem end_ok (w wr : World) (n : Nat) (cs : Array Value) (o : Obj) (z : Value) (q : Value)
    (hb : Below w.heap.size w wr) (hsz : wr.heap.size = w.heap.size + 2)
    (h0 : wr.heap[w.heap.size]? = some (.cells #[.pointer none, .pointer none] 45)) (h1 : wr.heap[w.heap.size + 1]? = some (.cells cs 53))
    (hfst : 0 < n → cs[0]? = some z) :
    (((wr.setCell ⟨w.heap.size, 0, none⟩ (.pointer none)).setCell ⟨w.heap.size, 1, none⟩ q).alloc o).heap[w.heap.size]? = some (.cells #[.pointer none, q] 45) ∧
    Below w.heap.size w (((wr.setCell ⟨w.heap.size, 0, none⟩ (.pointer none)).setCell ⟨w.heap.size, 1, none⟩ q).alloc o) ∧
    (((wr.setCell ⟨w.heap.size, 0, none⟩ (.pointer none)).setCell ⟨w.heap.size, 1, none⟩ q).alloc o).heap[w.heap.size + 2]? = some o ∧
    (0 < n → (((wr.setCell ⟨w.heap.size, 0, none⟩ (.pointer none)).setCell ⟨w.heap.size, 1, none⟩ q).alloc o).cell? ⟨w.heap.size + 1, 0, none⟩ = some z) := by
  have hs : ((wr.setCell ⟨w.heap.size, 0, none⟩ (.pointer none)).setCell ⟨w.heap.size, 1, none⟩ q).heap.size = w.heap.size + 2 := by rw [size_setCell, size_setCell]; exact hsz
  refine ⟨?_, ?_, ?_, ?_⟩
  · rw [Below.heap_alloc _ _ _ (by omega)]
    exact heap_setCell_same _ _ _ _ _ _ (heap_setCell_same _ _ _ _ _ _ h0)
  · exact ((hb.setCell (Nat.le_refl _) _).setCell (Nat.le_refl _) _).alloc (by omega) _
  · have := heap_alloc_new ((wr.setCell ⟨w.heap.size, 0, none⟩ (.pointer none)).setCell ⟨w.heap.size, 1, none⟩ q) o
    rwa [hs] at this
  · intro hn
    have h1' : (((wr.setCell ⟨w.heap.size, 0, none⟩ (.pointer none)).setCell ⟨w.heap.size, 1, none⟩ q).alloc o).heap[w.heap.size + 1]? = some (.cells cs 53) := by
      rw [Below.heap_alloc _ _ _ (by omega), heap_setCell_other _ _ _ _ (by show w.heap.size + 1 ≠ w.heap.size; omega), heap_setCell_other _ _ _ _ (by show w.heap.size + 1 ≠ w.heap.size; omega)]
      exact h1
    rw [cell_of_row _ _ _ _ _ _ h1']
    exact hfst hn

theorem region_nil (w : World) (c : Nat) :
    Calls Yba.prog 6 #[.slice none 0 c] w fun e w' => e = .returned (.agg #[.pointer none, .pointer none]) ∧ Below w.heap.size w w' := by
  have hq := fun w => Lib.run_eql_slice_nil (P := Yba.prog) w 24 2 none 0 c 0 0 Yba.underlying24
  go_enter Yba.func6, Yba.ntmps6
  go_wp2
  exact bodyPost_ret (v := .agg #[.pointer none, .pointer none]) (by simp [results, Yba.results6, go_sem]) rfl ⟨rfl, (Below.refl _ _).alloc (Nat.le_refl _) _⟩

theorem region_some (zs : List Int) (b off : Nat) (n c : Nat) (w : World) (hn : n ≤ 1024) 
    (hc : ∀ k, k < n → w.cell? ⟨b, off + k, none⟩ = some (.int .i64 (zs.getD k 0))) :
    Calls Yba.prog 6 #[.slice (some ⟨b, off, none⟩) n c] w fun e w' => e = .returned (.agg #[.pointer none, .pointer (some ⟨w.heap.size + 2, 0, none⟩)]) ∧ Below w.heap.size w w'
      ∧ w'.cell? ⟨w.heap.size + 2, 2, none⟩ = some (.slice (some ⟨w.heap.size + 1, 0, none⟩) n n) ∧ (0 < n → w'.cell? ⟨w.heap.size + 1, 0, none⟩ = some (.int .i64 (zs.getD 0 0))) := by
  have hq := fun w => Lib.run_eql_slice_nil (P := Yba.prog) w 24 2 (some ⟨b, off, none⟩) n c 0 0 Yba.underlying24
  have hmk := run_mk n hn
  go_enter Yba.func6, Yba.ntmps6
  go_wp2
  clear hmk hq
  go_loopw [14] (fun i wr => ∃ (k : Nat) (cs : Array Value), k ≤ n ∧ i = .int .i64 k ∧ Below w.heap.size w wr ∧ wr.heap.size = w.heap.size + 2
      ∧ wr.heap[w.heap.size]? = some (.cells #[.pointer none, .pointer none] 45) ∧ wr.heap[w.heap.size + 1]? = some (.cells cs 53) ∧ cs.size = n * 2
      ∧ (0 < k → cs[0]? = some (.int .i64 (zs.getD 0 0)))) (fun i _ => n - (intOf i).toNat)
  case atStart =>
    exact ⟨0, made n, by omega, rfl, ((Below.refl _ _).alloc (Nat.le_refl _) _).alloc (by simp) _, by simp, heap_alloc2_old _ _ _, heap_alloc2_new _ _ _, made_size n, by omega⟩
  case round =>
    obtain ⟨k, cs, hk, rfl, hb, hsz, h0, h1, hcs, hfst⟩ := hrel
    by_cases hlt : k < n
    · have hl := hc k hlt
      have hl' := (hb.cell (p := ⟨b, off + k, none⟩) (block_lt_of_cell hl)).trans hl
      obtain ⟨v1, hv1⟩ : ∃ v, wr.cell? ⟨w.heap.size + 1, k * 2, none⟩ = some v := ⟨cs[k * 2], by rw [cell_of_row wr _ _ _ _ _ h1]; exact Array.getElem?_eq_getElem (by omega)⟩
      obtain ⟨v2, hv2⟩ : ∃ v, wr.cell? ⟨w.heap.size + 1, k * 2 + 1, none⟩ = some v := ⟨cs[k * 2 + 1], by rw [cell_of_row wr _ _ _ _ _ h1]; exact Array.getElem?_eq_getElem (by omega)⟩
      have hf : ∀ o, wr.frozen? ⟨w.heap.size + 1, o, none⟩ = false := fun o => frozen_of_row wr _ o cs _ h1
      have H : Hid (wr.heap[w.heap.size]? = some (.cells #[.pointer none, .pointer none] 45) ∧ wr.heap[w.heap.size + 1]? = some (.cells cs 53) ∧ wr.heap.size = w.heap.size + 2 ∧ cs.size = n * 2 ∧ (0 < k → cs[0]? = some (.int .i64 (zs.getD 0 0)))) := ⟨h0, h1, hsz, hcs, hfst⟩
      clear h0 h1 hsz hcs hfst hl
      go_wp2
      go_roundw
      case rel => exact round_ok w wr zs n k cs _ hlt hb H.out.1 H.out.2.1 H.out.2.2.1 H.out.2.2.2.1 H.out.2.2.2.2
      case measure => simp [intOf]; omega
    · have hf : ∀ o, wr.frozen? ⟨w.heap.size, o, none⟩ = false := fun o => frozen_of_row wr _ o _ _ h0
      have hv1 : wr.cell? ⟨w.heap.size, 0, none⟩ = some (.pointer none) := by rw [cell_of_row wr _ _ _ _ _ h0]; rfl
      have hv2 : wr.cell? ⟨w.heap.size, 1, none⟩ = some (.pointer none) := by rw [cell_of_row wr _ _ _ _ _ h0]; rfl
      have hkn : k = n := by omega
      have H : Hid (0 < n → cs[0]? = some (.int .i64 (zs.getD 0 0))) := by rw [← hkn]; exact hfst
      clear hfst hkn
      go_wp2
      obtain ⟨e0, e1, e2, e3⟩ := end_ok w wr n cs (.cells #[.slice none 0 0, .slice none 0 0, .slice (some ⟨w.heap.size + 1, 0, none⟩) n n] 56) _ (.pointer (some ⟨w.heap.size + 2, 0, none⟩)) hb hsz h0 h1 H.out
      exact bodyPost_ret (v := .agg #[.pointer none, .pointer (some ⟨w.heap.size + 2, 0, none⟩)]) (results_cell_row Yba.results6 _ _ w.heap.size 45 _ _ _ rfl e0 Yba.underlying45 rfl (by kernel_rfl)) rfl ⟨rfl, e1, by rw [cell_of_row _ _ _ _ _ _ e2]; rfl, e3⟩
end Go.Proofs.Ybulkttq
