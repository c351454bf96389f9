/- [32]int64 as a whole: loaded out of the middle of a block, compared; inside a region that draws its order and only reads. -/
import Derived.Test.YbulkttqRows
import Derived.WalkKit
import Derived.Laws.Rows
import Derived.ChangeKeysEq
import Derived.Deep.QuietTactic
import Derived.BigQuiet
namespace Go.Proofs.Ybulkttq
open Go.RowKit

/-- a row of 32 numbers as a Go value -/
def arr (ys : List Int) : Value := .agg (ys.map (Value.int .i64)).toArray

theorem run_load_part (w : World) (g off : Nat) (t : TypeId) (cs : Array Value) (fr : Nat × Nat) (ys : List Int) (hg : w.heap[g]? = some (.cells cs t fr)) (hlen : ys.length = 32)
    (h : ∀ j, j < 32 → cs[off + j]? = some (.int .i64 (ys.getD j 0))) : (loadVar 23 ⟨g, off, none⟩).run Yba.prog w = .ok (arr ys) w := by
  have hl : (loadCells ⟨g, off, none⟩ (ys.map (Value.int .i64)).length).run Yba.prog w = .ok (ys.map (Value.int .i64)).toArray w :=
    run_loadCells_list (P := Yba.prog) w ⟨g, off, none⟩ (ys.map (Value.int .i64)) (fun j v hv => by
      have hadd : (⟨g, off, none⟩ : Addr).add j = ⟨g, off + j, none⟩ := by unfold Addr.add; split <;> simp_all
      have hj : j < 32 := by
        have := (List.getElem?_eq_some_iff.1 hv).1
        simpa [hlen] using this
      rw [hadd, cell_of_row w g (off + j) cs t fr hg, h j hj]
      rw [List.getElem?_map, List.getElem?_eq_getElem (by omega)] at hv
      simp only [Option.map_some, Option.some.injEq] at hv
      rw [← hv]
      simp [List.getD, hlen, hj])
  rw [List.length_map, hlen] at hl
  simp [loadVar, Sem.run_bind, Yba.isAgg23, Yba.sizeOf23, hl, arr]

theorem run_eq_items (d : Nat) (xs : Array Value) (w : World) (hx : ∀ i, i < xs.size → ∃ z, xs[i]? = some (.int .i64 z)) : ∀ (is : List Nat), (∀ i ∈ is, i < xs.size) →
    (Op.eqItems (d + 1) 2 1 xs xs is).run Yba.prog w = .ok true w
  | [], _ => rfl
  | i :: is, h => by
    obtain ⟨z, hz⟩ := hx i (h i (by simp))
    have hp : (part 2 xs (i * 1)).run Yba.prog w = .ok (.int .i64 z) w := by
      rw [Nat.mul_one]
      simp [part, Sem.run_bind, Yba.isAgg2, hz]
    have he := run_equalIn_int w d 2 .i64 .i64 z z Yba.underlying2
    simp only [Op.eqItems, Sem.run_bind, hp, he, Result.andThen_ok, beq_self_eq_true, Bool.not_true, Bool.false_eq_true, if_false]
    exact run_eq_items d xs w hx is (fun j hj => h j (by simp [hj]))

theorem info2 : ∃ i, Yba.prog.info? 2 = some i := by
  have h : (Yba.prog.info? 2).isSome = true := by kernel_rfl
  exact Option.isSome_iff_exists.1 h

theorem run_eq_arr (ys : List Int) (hlen : ys.length = 32) (w : World) : (binOp .eql 23 (arr ys) (arr ys)).run Yba.prog w = .ok (.bool true) w := by
  obtain ⟨i, hi⟩ := info2
  have h1 := run_equalIn_array (P := Yba.prog) (w := w) 9999 (ys.map (Value.int .i64)).toArray (ys.map (Value.int .i64)).toArray Yba.underlying23 hi
  have hc : Yba.prog.cellsOf 2 = 1 := by kernel_rfl
  rw [hc, run_eq_items 9998 _ w (fun j hj => ⟨_, by rw [List.getElem?_toArray, List.getElem?_map, List.getElem?_eq_getElem (by simpa using hj)]; rfl⟩) (List.range 32) (fun j hj => by simpa [hlen] using hj)] at h1
  unfold arr
  rw [run_eql_struct, h1]
  rfl

section
variable {P : Program} {o : Oper} {a : Act} {w : World} {K : Act → Prop}
/-- an operation of a quiet walk, by its run -/
theorem quiet_load (ty : TypeId) (x : Operand) (A : Addr) (v : Value) (ho : o.op = .load ty x) (hx : a.eval x = .pointer (some A))
    (hl : ∀ n, (loadVar ty A).run P (w.drewN n) = .ok v (w.drewN n)) (hk : K (a.put o.dst v)) : o.quiet P a (fun w' => ∃ n, w' = w.drewN n) K := by
  refine ⟨v, ?_, hk⟩
  rintro _ ⟨n, rfl⟩
  unfold Oper.quietAt execOp
  simp only [ho, hx, Instr.loadAt, Instr.sureAddr, Sem.run_bind, Sem.run_pure, Result.andThen_ok, hl n]
  exact ⟨rfl, rfl⟩

end

theorem guard23 : Yba.prog.eqGuardType Yba.prog.depth 23 = false := by kernel_rfl

theorem quiet_eq_arr {o : Oper} {a : Act} {w : World} {K : Act → Prop} (ys : List Int) (hlen : ys.length = 32) (x y : Operand) (u : TypeId) (ho : o.op = .binOp .eql 23 x y u) (hx : a.eval x = arr ys) (hy : a.eval y = arr ys)
    (hk : K (a.put o.dst (.bool true))) : o.quiet Yba.prog a (fun w' => ∃ n, w' = w.drewN n) K := by
  refine ⟨.bool true, ?_, hk⟩
  rintro _ ⟨n, rfl⟩
  have hg : (eqGuard .eql 23 x y (arr ys) (arr ys)).run Yba.prog (w.drewN n) = .ok () (w.drewN n) := run_eqGuard_agg (w.drewN n) .eql 23 x y _ _ guard23
  unfold Oper.quietAt execOp
  simp only [ho, hx, hy, Sem.run_bind, Sem.run_pure, Result.andThen_ok, hg, run_eq_arr ys hlen]
  exact ⟨rfl, rfl⟩
end Go.Proofs.Ybulkttq
