/- The shard that LawS1004CStep builds, and whole arrays in plain regions. -/
import Derived.Test.YbulkttqRegion
import Derived.Test.YbulkttqZero
import Derived.Test.YbulkttqArr
import Derived.Deep.WholeRow
namespace Go.Proofs.Ybulkttq
open Go.ChangeShapes Go.WideShapes Go.ChangeAt Go.RowKit

/-- what a shard's cells hold: lows, asked; the four references nil -/
structure Shard (cs : Array Value) (ys : List Int) (q : Int) : Prop where
  size : cs.size = 167
  len : ys.length = 32
  lows : ∀ j, j < 32 → cs[6 + j]? = some (.int .i64 (ys.getD j 0))
  ask : cs[38]? = some (.int .i64 q)
  table : cs[2]? = some (.pointer none)
  made : cs[3]? = some (.map none)
  opened : cs[4]? = some (.map none)
  held : cs[5]? = some (.map none)

/-- one store a cell, from 'off + k' on -/
theorem fold_set (off : Nat) : ∀ (l : List Value) (k : Nat) (cs : Array Value) (i : Nat), 
    ((l.zipIdx k).foldl (fun cs (p : Value × Nat) => cs.setIfInBounds (off + p.2) p.1) cs)[i]? = if off + k ≤ i ∧ i < off + k + l.length ∧ i < cs.size then l[i - off - k]? else cs[i]?
  | [], k, cs, i => by
    rw [if_neg (by simp; omega)]; rfl
  | v :: l, k, cs, i => by
    rw [List.zipIdx_cons, List.foldl_cons, fold_set off l (k + 1)]
    simp only [Array.size_setIfInBounds, List.length_cons]
    by_cases h : off + (k + 1) ≤ i ∧ i < off + (k + 1) + l.length ∧ i < cs.size
    · rw [if_pos h, if_pos (by omega)]
      rw [show i - off - k = (i - off - (k + 1)) + 1 by omega, List.getElem?_cons_succ]
    · rw [if_neg h]
      by_cases e : i = off + k
      · subst e
        by_cases hs : off + k < cs.size
        · rw [Array.getElem?_setIfInBounds_self_of_lt hs, if_pos (by omega)]
          simp
        · rw [if_neg (by omega), Array.getElem?_eq_none (by simp; omega), Array.getElem?_eq_none (by omega)]
      · rw [Array.getElem?_setIfInBounds_ne (by omega), if_neg (by omega)]

theorem fold_size (off : Nat) : ∀ (l : List Value) (k : Nat) (cs : Array Value), ((l.zipIdx k).foldl (fun cs (p : Value × Nat) => cs.setIfInBounds (off + p.2) p.1) cs).size = cs.size
  | [], _, _ => rfl
  | v :: l, k, cs => by rw [List.zipIdx_cons, List.foldl_cons, fold_size off l (k + 1)]; simp

/-- the shard's cells -/
def shardOf (zs : List Int) (q : Int) : Array Value :=
  (((zs.map (Value.int .i64)).zipIdx 0).foldl (fun cs (p : Value × Nat) => cs.setIfInBounds (6 + p.2) p.1) zshard).setIfInBounds 38 (.int .i64 q)

theorem shardOf_ok (zs : List Int) (hz : zs.length = 32) (q : Int) : Shard (shardOf zs q) zs q := by
  have hs := fold_size 6 (zs.map (Value.int .i64)) 0 zshard
  rw [zshard_size] at hs
  have hlow : ∀ i, i < 6 → (shardOf zs q)[i]? = zshard[i]? := fun i hi => by
    unfold shardOf
    rw [Array.getElem?_setIfInBounds_ne (by omega), fold_set, if_neg (by omega)]
  refine ⟨?_, hz, ?_, ?_, ?_, ?_, ?_, ?_⟩
  · unfold shardOf; rw [Array.size_setIfInBounds, hs]
  · intro j hj
    unfold shardOf
    rw [Array.getElem?_setIfInBounds_ne (by omega), fold_set, if_pos (by rw [zshard_size, List.length_map]; omega)]
    rw [show 6 + j - 6 - 0 = j by omega, List.getElem?_map, List.getD, List.getElem?_eq_getElem (by omega)]
    rfl
  · unfold shardOf; rw [Array.getElem?_setIfInBounds_self_of_lt (by omega)]
  · rw [hlow 2 (by omega)]; kernel_rfl
  · rw [hlow 3 (by omega)]; kernel_rfl
  · rw [hlow 4 (by omega)]; kernel_rfl
  · rw [hlow 5 (by omega)]; kernel_rfl

/-- one note's two stores -/
theorem Shard.noted {cs : Array Value} {ys : List Int} {q : Int} (h : Shard cs ys q) (l : Int) (r : Int) :
    Shard ((cs.setIfInBounds (6 + (q % 32).toNat) (.int .i64 l)).setIfInBounds 38 (.int .i64 r)) (ys.set (q % 32).toNat l) r := by
  have s1 := h.size
  have s3 := h.len
  have hlow : ∀ i, i < 6 → ((cs.setIfInBounds (6 + (q % 32).toNat) (.int .i64 l)).setIfInBounds 38 (.int .i64 r))[i]? = cs[i]? := fun i hi => by
    rw [Array.getElem?_setIfInBounds_ne (by omega), Array.getElem?_setIfInBounds_ne (by omega)]
  refine ⟨by simpa using s1, by simpa using s3, ?_, ?_, ?_, ?_, ?_, ?_⟩
  · intro j hj
    rw [Array.getElem?_setIfInBounds_ne (by omega)]
    by_cases e : j = (q % 32).toNat
    · subst e
      rw [Array.getElem?_setIfInBounds_self_of_lt (by omega), List.getD, List.getElem?_set_self (by omega)]
      rfl
    · rw [Array.getElem?_setIfInBounds_ne (by omega), h.lows j hj, List.getD, List.getD, List.getElem?_set_ne (Ne.symm e)]
  · rw [Array.getElem?_setIfInBounds_self_of_lt (by simp [s1])]
  · rw [hlow 2 (by omega)]; exact h.table
  · rw [hlow 3 (by omega)]; exact h.made
  · rw [hlow 4 (by omega)]; exact h.opened
  · rw [hlow 5 (by omega)]; exact h.held

/-- the composite literal &ownerShard{lows: lows, asked: a} -/
theorem run_build (zs : List Int) (hz : zs.length = 32) (q : Int) (w : World) :
    (Instr.build 40 #[(5, arr zs), (6, .int .i64 q)]).run Yba.prog w = .ok (.agg (shardOf zs q)) w := by
  have hz0 := zero40
  have hzs := zshard_size
  simp [Instr.build, Instr.fill, go_sem, hz0, Value.cells, arr]
  have hf := fold_size 6 (zs.map (Value.int .i64)) 0 zshard
  rw [hzs] at hf
  rw [if_neg (by omega), if_neg (by rw [hf]; omega)]
  rfl

section
variable {ops : Array Oper} {rest : List Oper} {o : Oper} {a : Act} {w : World} {Q : Exit → Act → World → Prop}
/-- a whole [32]int64 is loaded, in a plain region -/
theorem wpList_load_arr (hgd : o.guard = none) (x : Operand) (ho : o.op = .load 23 x) (A : Addr) (ys : List Int) (hx : a.eval x = .pointer (some A))
    (hl : (loadVar 23 A).run Yba.prog w = .ok (arr ys) w) (h : wpList Yba.prog ops Q rest (a.put o.dst (arr ys)) w) : wpList Yba.prog ops Q (o :: rest) a w :=
  wpList_plain hgd fun K hK => by
    unfold Oper.wp execOp
    simp only [ho, hx, Instr.loadAt, Instr.sureAddr, Sem.run_bind, Sem.run_pure, Result.andThen_ok, hl]
    exact hK _ _ h

/-- the shard is built, in a plain region -/
theorem wpList_build_shard (hgd : o.guard = none) (x y : Operand) (ho : o.op = .build 40 #[(5, x), (6, y)]) (zs : List Int) (hz : zs.length = 32) (q : Int) (hx : a.eval x = arr zs) (hy : a.eval y = .int .i64 q)
    (h : wpList Yba.prog ops Q rest (a.put o.dst (.agg (shardOf zs q))) w) : wpList Yba.prog ops Q (o :: rest) a w :=
  wpList_plain hgd fun K hK => by
    unfold Oper.wp execOp
    simp only [ho, List.map_toArray, List.map_cons, List.map_nil, hx, hy, Sem.run_bind, Sem.run_pure, Result.andThen_ok, run_build zs hz q]
    exact hK _ _ h

/-- a whole [32]int64 is stored into the block that was made last -/
theorem wpList_store_arr {W : World} (hgd : o.guard = none) (x y : Operand) (ho : o.op = .store 23 x y) (ys : List Int) (hlen : ys.length = 32) (c : Array Value) (hc : c.size = 32)
    (hx : a.eval x = .pointer (some ⟨W.heap.size, 0, none⟩)) (hy : a.eval y = arr ys)
    (h : wpList Yba.prog ops Q rest (a.put o.dst undef) (W.alloc (.cells (ys.map (Value.int .i64)).toArray 23))) : wpList Yba.prog ops Q (o :: rest) a (W.alloc (.cells c 23)) :=
  wpList_plain hgd fun K hK => by
    have hs := run_storeVar_new (P := Yba.prog) W 23 c (ys.map (Value.int .i64)).toArray (by rw [List.size_toArray, List.length_map, hlen]; kernel_rfl) (by simp [hc, hlen]) (by simp [Value.oneCell'])
    unfold Oper.wp execOp
    simp only [ho, hx, hy, Instr.storeAt, Instr.sureAddr, Sem.run_bind, Sem.run_pure, Result.andThen_ok, arr, hs]
    exact hK _ _ h
end
end Go.Proofs.Ybulkttq
