/- The order in the making: what zzs1009abuild's two loops keep. No walk here. -/
import Derived.Test.YbulktwiInput
namespace Go.Proofs.Ybulktwi
open Go.ChangeShapes Go.WideShapes Go.ChangeAt Go.RowKit

theorem Kept.own {q q' : World} (h : Kept q q') {base : Nat} {e : TypeId} {size : Nat} {v : Value} {n : Nat} {xs : List Value} (ho : q.ownsRow base e size v n xs) : q'.ownsRow base e size v n xs := by
  obtain ⟨h1, h2⟩ := ho
  refine ⟨h1, ?_⟩
  rcases h2 with h2 | ⟨g, cap, cur, hv, hg, hh, r⟩
  · exact .inl h2
  · exact .inr ⟨g, cap, cur, hv, hg, h.block hh, r⟩

/-- a row of pointers as a slice's cells: the row's block bears the type 't' -/
def PtrsT (w : World) (t : TypeId) (v : Value) (n : Nat) (R : Nat → Nat → Prop) : Prop :=
  ∃ ps, w.ownsRow 0 t 1 v n ps ∧ ∀ k, k < n → ∃ c, ps[k]? = some (.pointer (some ⟨c, 0, none⟩)) ∧ R k c
/-- block a is the authorization z of order o, the row of its challenges of its own type -/
def AuthzT (w : World) (a o : Nat) (z : Az) : Prop :=
  ∃ v, w.heap[a]? = some (.cells (authzBlk o v z.1) 54) ∧ PtrsT w 57 v z.2.length (fun k c => ChalAt w c (z.2.getD k (0, 0)))

theorem PtrsT.at {w : World} {t : TypeId} {v : Value} {n : Nat} {R R' : Nat → Nat → Prop} (hR : ∀ k c, R k c → R' k c) (h : PtrsT w t v n R) : PtrsAt w v n R' := by
  obtain ⟨ps, ⟨hl, ho⟩, hk⟩ := h
  rcases ho with ⟨rfl, rfl⟩ | ⟨g, cap, cur, rfl, _, hg, _, _, hs, ht⟩
  · exact ⟨none, 0, rfl, fun k hk => absurd hk (by omega)⟩
  · refine ⟨some ⟨g, 0, none⟩, cap, rfl, fun k hkn => ⟨g, rfl, ?_⟩⟩
    obtain ⟨c, hc, hr⟩ := hk k hkn
    refine ⟨c, ?_, hR _ _ hr⟩
    rw [cell_of_row _ _ _ _ _ _ hg, ← hc, ← ht, List.getElem?_take_of_lt (by omega), Array.getElem?_toList]
theorem AuthzT.at {w : World} {a o : Nat} {z : Az} (h : AuthzT w a o z) : AuthzAt w a o z := by
  obtain ⟨v, hv, hp⟩ := h
  exact ⟨v, hv, hp.at (fun _ _ h => h)⟩

/-- what the blocks of authorizations, challenges and their rows hold stays -/
def KeepT (w w' : World) : Prop := ∀ (k : Nat) (cs : Array Value) (t : TypeId), t = 54 ∨ t = 57 ∨ t = 66 → w.heap[k]? = some (.cells cs t) → w'.heap[k]? = some (.cells cs t)
theorem KeepT.chal {w w' : World} (h : KeepT w w') {c : Nat} {p : Int × Int} (hc : ChalAt w c p) : ChalAt w' c p := by
  obtain ⟨a, ha⟩ := hc
  exact ⟨a, h _ _ _ (by simp) ha⟩
theorem KeepT.own {w w' : World} (h : KeepT w w') {base : Nat} {size : Nat} {v : Value} {n : Nat} {xs : List Value} (ho : w.ownsRow base 57 size v n xs) : w'.ownsRow base 57 size v n xs := by
  obtain ⟨h1, h2⟩ := ho
  refine ⟨h1, ?_⟩
  rcases h2 with h2 | ⟨g, cap, cur, hv, hg, hh, r⟩
  · exact .inl h2
  · exact .inr ⟨g, cap, cur, hv, hg, h _ _ _ (by simp) hh, r⟩
theorem KeepT.authz {w w' : World} (h : KeepT w w') {a o : Nat} {z : Az} (ha : AuthzT w a o z) : AuthzT w' a o z := by
  obtain ⟨v, hv, ps, ho, hk⟩ := ha
  exact ⟨v, h _ _ _ (by simp) hv, ps, h.own ho, fun k hkn => by obtain ⟨c, hc, hr⟩ := hk k hkn; exact ⟨c, hc, h.chal hr⟩⟩
theorem Kept.keepT {w w' : World} (h : Kept w w') : KeepT w w' := fun _ _ _ _ hk => h.block hk

theorem own_zero {w : World} {base : Nat} {e : TypeId} {size : Nat} {v : Value} {n : Nat} {xs : List Value} (h : w.ownsRow base e size v n xs) : w.ownsRow 0 e size v n xs := by
  obtain ⟨h1, h2⟩ := h
  refine ⟨h1, ?_⟩
  rcases h2 with h2 | ⟨g, cap, cur, hv, _, r⟩
  · exact .inl h2
  · exact .inr ⟨g, cap, cur, hv, Nat.zero_le _, r⟩

/-- the inner loop: block B + 1 is the authorization in the making, j challenges done -/
structure InnerInv (B O : Nat) (d : Bool) (wr q : World) (chs : List (Int × Int)) (j : Nat) (v : Value) (ps : List Value) : Prop where
  bel : Below B wr q
  size : B + 2 ≤ q.heap.size
  blk : q.heap[B + 1]? = some (.cells (authzBlk O v d) 54)
  own : q.ownsRow (B + 2) 57 1 v j ps
  pts : ∀ i, i < j → ∃ c, ps[i]? = some (.pointer (some ⟨c, 0, none⟩)) ∧ ChalAt q c (chs.getD i (0, 0))

theorem InnerInv.kept {B O : Nat} {d : Bool} {wr q q' : World} {chs : List (Int × Int)} {j : Nat} {v : Value} {ps : List Value} (h : InnerInv B O d wr q chs j v ps) (hb : Below q.heap.size q q') :
    InnerInv B O d wr q' chs j v ps :=
  ⟨h.bel.trans (hb.mono (by have := h.size; omega)), Nat.le_trans h.size hb.size, (Kept.of hb).block h.blk, (Kept.of hb).own h.own, fun i hi => by
    obtain ⟨c, hc, hr⟩ := h.pts i hi
    exact ⟨c, hc, (Kept.of hb).chal hr⟩⟩

theorem row_ne {q : World} {base : Nat} {e : TypeId} {size : Nat} {v : Value} {n : Nat} {xs : List Value} (ho : q.ownsRow base e size v n xs) {k : Nat} {cs : Array Value} {t : TypeId}
    (hk : q.heap[k]? = some (.cells cs t)) (ht : t ≠ e) : some k ≠ v.ownBlock := by
  obtain ⟨_, h2⟩ := ho
  rcases h2 with ⟨rfl, _⟩ | ⟨g, cap, cur, rfl, _, hh, _⟩
  · simp [Value.ownBlock]
  · intro e1
    simp only [Value.ownBlock, Option.some.injEq] at e1
    rw [e1, hh] at hk
    injection hk with hk1
    injection hk1 with hk2 hk3 hk4
    exact ht hk3.symm
theorem row_base {q : World} {base : Nat} {e : TypeId} {size : Nat} {v : Value} {n : Nat} {xs : List Value} (ho : q.ownsRow base e size v n xs) : ∀ k, v.ownBlock = some k → base ≤ k := by
  obtain ⟨_, h2⟩ := ho
  rcases h2 with ⟨rfl, _⟩ | ⟨g, cap, cur, rfl, hg, _⟩
  · intro k hk; simp [Value.ownBlock] at hk
  · intro k hk
    simp only [Value.ownBlock, Option.some.injEq] at hk
    omega

/-- one challenge more is appended -/
theorem InnerInv.step {B O : Nat} {d : Bool} {wr q q6 : World} {chs : List (Int × Int)} {j : Nat} {v v' : Value} {ps : List Value} {c : Nat} (h : InnerInv B O d wr q chs j v ps)
    (hc : ChalAt q c (chs.getD j (0, 0))) (ho : q6.ownsRow (B + 2) 57 1 v' (j + 1) (ps ++ [.pointer (some ⟨c, 0, none⟩)])) (hg : q.grownBy q6 v.ownBlock) :
    InnerInv B O d wr (q6.setCell ⟨B + 1, 4, none⟩ v') chs (j + 1) v' (ps ++ [.pointer (some ⟨c, 0, none⟩)]) := by
  have hsz := h.size
  have hlen : ps.length = j := by have := h.own.1; omega
  have k6 : q6.heap[B + 1]? = some (.cells (authzBlk O v d) 54) := (hg.block _ (by omega) (row_ne h.own h.blk (by decide))).trans h.blk
  have hch : ∀ x p, ChalAt q x p → ChalAt (q6.setCell ⟨B + 1, 4, none⟩ v') x p := fun x p ⟨a, ha⟩ => by
    have hx : q6.heap[x]? = some (.cells (chalBlk a (stStr p.1) (p.2 % 1000000000) (p.2 / 1000000000)) 66) := (hg.block _ (lt_of_block ha) (row_ne h.own ha (by decide))).trans ha
    refine ⟨a, ?_⟩
    rw [heap_setCell_other _ _ _ _ (by intro e; have e' : x = B + 1 := e; rw [e', k6] at hx; injection hx with h1; injection h1 with h2 h3 h4; exact absurd h3 (by decide))]
    exact hx
  refine ⟨(h.bel.grown hg (by omega) (fun k hk => by have := row_base h.own k hk; omega)).setCell (by show B ≤ B + 1; omega) _, ?_, ?_, ownsRow_setCell_below ho (by show B + 1 < B + 2; omega) _, ?_⟩
  · have := hg.size; simp [World.setCell]; omega
  · exact heap_setCell_same _ _ _ _ _ _ k6
  · intro i hi
    by_cases e : i = j
    · subst e
      exact ⟨c, by rw [List.getElem?_append_right (by omega), hlen]; simp, hch _ _ hc⟩
    · obtain ⟨x, hx, hr⟩ := h.pts i (by omega)
      exact ⟨x, by rw [List.getElem?_append_left (by omega)]; exact hx, hch _ _ hr⟩

theorem InnerInv.authz {B O : Nat} {d : Bool} {wr q : World} {chs : List (Int × Int)} {v : Value} {ps : List Value} (h : InnerInv B O d wr q chs chs.length v ps) : AuthzT q (B + 1) O (d, chs) :=
  ⟨v, h.blk, ps, own_zero h.own, h.pts⟩

/-- the outer loop: block O is the order in the making, k authorizations done -/
structure OuterInv (S O : Nat) (cert : ByteArray) (sg : Bool) (r : Value) (exp : Int) (w q : World) (azs : List Az) (k : Nat) (va : Value) (pas : List Value) : Prop where
  bel : Below S w q
  so : S < O
  lo : O < q.heap.size
  t0 : q.heap[S]? = some (tb 0 0)
  blk : q.heap[O]? = some (.cells (orderBlk cert sg r exp va) 44)
  own : q.ownsRow (O + 1) 49 1 va k pas
  pts : ∀ i, i < k → ∃ a, pas[i]? = some (.pointer (some ⟨a, 0, none⟩)) ∧ AuthzT q a O (azs.getD i (false, []))

theorem OuterInv.kept {S O : Nat} {cert : ByteArray} {sg : Bool} {r : Value} {exp : Int} {w q q' : World} {azs : List Az} {k : Nat} {va : Value} {pas : List Value} (h : OuterInv S O cert sg r exp w q azs k va pas) (hb : Below q.heap.size q q') :
    OuterInv S O cert sg r exp w q' azs k va pas :=
  ⟨h.bel.trans (hb.mono (by have := h.lo; have := h.so; omega)), h.so, Nat.lt_of_lt_of_le h.lo hb.size, (Kept.of hb).block h.t0, (Kept.of hb).block h.blk, (Kept.of hb).own h.own, fun i hi => by
    obtain ⟨a, ha, hr⟩ := h.pts i hi
    exact ⟨a, ha, (Kept.of hb).keepT.authz hr⟩⟩

/-- one authorization more is appended -/
theorem OuterInv.step {S O : Nat} {cert : ByteArray} {sg : Bool} {r : Value} {exp : Int} {w q q6 : World} {azs : List Az} {k : Nat} {va va' : Value} {pas : List Value} {a : Nat} (h : OuterInv S O cert sg r exp w q azs k va pas)
    (ha : AuthzT q a O (azs.getD k (false, []))) (ho : q6.ownsRow (O + 1) 49 1 va' (k + 1) (pas ++ [.pointer (some ⟨a, 0, none⟩)])) (hg : q.grownBy q6 va.ownBlock) :
    OuterInv S O cert sg r exp w (q6.setCell ⟨O, 6, none⟩ va') azs (k + 1) va' (pas ++ [.pointer (some ⟨a, 0, none⟩)]) := by
  have hlo := h.lo
  have hso := h.so
  have hlen : pas.length = k := by have := h.own.1; omega
  have k6 : q6.heap[O]? = some (.cells (orderBlk cert sg r exp va) 44) := (hg.block _ hlo (row_ne h.own h.blk (by decide))).trans h.blk
  have hkt : KeepT q (q6.setCell ⟨O, 6, none⟩ va') := fun x cs t ht hx => by
    have hx6 : q6.heap[x]? = some (.cells cs t) := (hg.block _ (lt_of_block hx) (row_ne h.own hx (by rcases ht with rfl | rfl | rfl <;> decide))).trans hx
    rw [heap_setCell_other _ _ _ _ (by intro e; have e' : x = O := e; rw [e', k6] at hx6; injection hx6 with h1; injection h1 with h2 h3 h4; rcases ht with rfl | rfl | rfl <;> exact absurd h3 (by decide))]
    exact hx6
  refine ⟨(h.bel.grown hg (by omega) (fun k hk => by have := row_base h.own k hk; omega)).setCell (by show S ≤ O; omega) _, hso, ?_, ?_, ?_, ownsRow_setCell_below ho (by show O < O + 1; omega) _, ?_⟩
  · have := hg.size; simp [World.setCell]; omega
  · rw [heap_setCell_other _ _ _ _ (by show S ≠ O; omega)]
    exact (hg.block _ (by omega) (row_ne (t := 29) h.own h.t0 (by decide))).trans h.t0
  · exact heap_setCell_same _ _ _ _ _ _ k6
  · intro i hi
    by_cases e : i = k
    · subst e
      exact ⟨a, by rw [List.getElem?_append_right (by omega), hlen]; simp, hkt.authz ha⟩
    · obtain ⟨x, hx, hr⟩ := h.pts i (by omega)
      exact ⟨x, by rw [List.getElem?_append_left (by omega)]; exact hx, hkt.authz hr⟩

theorem OuterInv.order {S O : Nat} {cert : ByteArray} {sg ref : Bool} {r : Value} {exp : Int} {w q : World} {azs : List Az} {va : Value} {pas : List Value} (h : OuterInv S O cert sg r exp w q azs azs.length va pas)
    (hr : if ref then ∃ p, r = .pointer (some p) else r = .pointer none) : OrderAt q O cert sg ref exp azs :=
  ⟨va, r, h.blk, hr, PtrsT.at (t := 49) (R := fun k a => AuthzT q a O (azs.getD k (false, []))) (fun _ _ h => h.at) ⟨pas, own_zero h.own, h.pts⟩⟩
end Go.Proofs.Ybulktwi
