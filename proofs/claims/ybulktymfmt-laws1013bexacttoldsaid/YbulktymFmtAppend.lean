/- AppendTest of a pattern of at most 15 octets. -/
import Derived.Test.YbulktymFmtFacts
import Derived.Laws.AppendOwnNone
import Derived.Laws.CopyOwn
import Derived.WalkSmall
namespace Go.Proofs.YbulktymFmt
open Go.RowKit

theorem info5 : (Ybaf.prog.info? 5).map (fun i => (i.zero, i.size, i.bytes)) = some (some (.int .u8 0), 1, 1) := by kernel_rfl

/-- what AppendTest leaves -/
def AppOk (e : Ending) (w' : World) (base n : Nat) (xs : List Value) : Prop := ∃ v', e = .returned (.tuple #[v', .nilIface]) ∧ w'.ownsRow base 5 1 v' n xs

theorem own_kept {q q' : World} {base : Nat} {e : TypeId} {size : Nat} {v : Value} {n : Nat} {xs : List Value} (hk : Below q.heap.size q q') (ho : q.ownsRow base e size v n xs) : q'.ownsRow base e size v n xs := by
  obtain ⟨h1, h2⟩ := ho
  refine ⟨h1, ?_⟩
  rcases h2 with h2 | ⟨g, cap, cur, hv, hg, hh, r⟩
  · exact .inl h2
  · have hlt : g < q.heap.size := by
      by_cases hk : g < q.heap.size
      · exact hk
      · rw [Array.getElem?_eq_none (by omega)] at hh; cases hh
    exact .inr ⟨g, cap, cur, hv, hg, (hk.block g hlt).trans hh, r⟩

theorem row_base {q : World} {base : Nat} {e : TypeId} {size : Nat} {v : Value} {n : Nat} {xs : List Value} (ho : q.ownsRow base e size v n xs) : ∀ k, v.ownBlock = some k → base ≤ k := by
  obtain ⟨_, h2⟩ := ho
  rcases h2 with ⟨rfl, _⟩ | ⟨g, cap, cur, rfl, hg, _⟩
  · intro k hk; simp [Value.ownBlock] at hk
  · intro k hk
    simp only [Value.ownBlock, Option.some.injEq] at hk
    omega

theorem add_block (a : Addr) (j : Nat) : (a.add j).block = a.block := by unfold Addr.add; split <;> rfl

/-- the pattern's cells behind the first append -/
theorem src_kept {w w1 : World} {base : Nat} {o : Obj} {ad : Addr} {m : Nat} {ps : List Value} {row : Option Nat} (hp : ps.length = m) (hpc : ∀ j v, ps[j]? = some v → w.cell? (ad.add j) = some v) (hpb : 0 < m → ad.block < base)
    (hbase : base ≤ w.heap.size) (hg : (w.alloc o).grownBy w1 row) (hr : ∀ k, row = some k → base ≤ k) : ∀ j v, ps[j]? = some v → w1.cell? (ad.add j) = some v := fun j v hj => by
  have hjm : j < m := by have := (List.getElem?_eq_some_iff.1 hj).1; omega
  have hb := hpb (by omega)
  have hblk : w1.heap[(ad.add j).block]? = w.heap[(ad.add j).block]? := by
    rw [add_block, hg.block _ (by rw [World.size_alloc]; omega) (fun e => by have := hr _ e.symm; omega)]
    exact Below.heap_alloc _ _ _ (by omega)
  rw [World.cell?_of_block hblk]
  exact hpc j v hj

set_option maxHeartbeats 1000000 in
theorem append_short (vb : Value) (h : Int) (ad : Addr) (m c nb : Nat) (xs ps : List Value) (base : Nat) (w : World) (hm : m ≤ 15) (hnb : nb ≤ 1024)
    (hown : w.ownsRow base 5 1 vb nb xs) (hbase : base ≤ w.heap.size) (hp : ps.length = m) (hpc : ∀ j v, ps[j]? = some v → w.cell? (ad.add j) = some v) (hpb : 0 < m → ad.block < base) (hp1 : ∀ u ∈ ps, u.oneCell' = true) :
    Calls Ybaf.prog 4 #[vb, .int .u8 h, .slice (some ad) m c] w fun e w' => AppOk e w' base (nb + 2 + m) ((xs ++ [.int .u8 h, .int .u8 (m * 16)]) ++ ps) ∧ Below base w w' := by
  obtain ⟨i5, hi5, hz5, hs5, hb5⟩ := info_parts info5
  have I5 : Hid (Ybaf.prog.info? 5 = some i5 ∧ i5.zero = some (.int .u8 0) ∧ i5.size = 1 ∧ i5.bytes = 1) := ⟨hi5, hz5, hs5, hb5⟩
  have HP : Hid (∀ j v, ps[j]? = some v → w.cell? (ad.add j) = some v) := hpc
  have HO : Hid (w.ownsRow base 5 1 vb nb xs) := hown
  clear hi5 hz5 hs5 hb5 hpc hown
  have hd : decide (15 < (m : Int)) = false := by simp; omega
  go_enter Ybaf.func4, Ybaf.ntmps4
  have HO' : Hid ((w.alloc (.cells #[.int .u8 h, .int .u8 (m * 16)] 5)).ownsRow base 5 1 vb nb xs) := own_kept ((Below.refl _ _).alloc (Nat.le_refl _) _) HO.out
  go_wp2_with (first
    | (at_builtin; refine wpList_append_own _ rfl _ _ 22 rfl base 5 i5 (.int .u8 0) 1 1 Ybaf.underlying22 I5.out.1 I5.out.2.1 I5.out.2.2.1 I5.out.2.2.2 rfl (by decide) vb nb xs rfl HO'.out ⟨w.heap.size, 0, none⟩ 2 2 [.int .u8 h, .int .u8 (m * 16)] rfl rfl (cell_two_new _ _ _ _) (fun x hx => by simp at hx; rcases hx with rfl | rfl <;> rfl) (by unfold maxLen; omega) (by omega) (by simp; omega) ?_; intro v1 w1 own1 g1 _; have HP1 : Hid (∀ j v, ps[j]? = some v → w1.cell? (ad.add j) = some v) := src_kept hp HP.out hpb hbase g1 (row_base HO'.out); have O1 : Hid (w1.ownsRow base 5 1 v1 (nb + 2) (xs ++ [.int .u8 h, .int .u8 (m * 16)])) := own1; have G1 : Hid ((w.alloc (.cells #[.int .u8 h, .int .u8 (m * 16)] 5)).grownBy w1 vb.ownBlock) := g1; clear own1 g1)
    | (at_builtin; refine wpList_append_own _ rfl _ _ 22 rfl base 5 i5 (.int .u8 0) 1 1 Ybaf.underlying22 I5.out.1 I5.out.2.1 I5.out.2.2.1 I5.out.2.2.2 rfl (by decide) v1 (nb + 2) (xs ++ [.int .u8 h, .int .u8 (m * 16)]) rfl O1.out ad m c ps rfl (by omega) HP1.out hp1 (by unfold maxLen; omega) (by omega) (by have := G1.out.size; simp at this; omega) ?_; intro v2 w2 own2 g2 _))
  go_ret2
  refine ⟨⟨v2, rfl, own2⟩, ?_⟩
  have hs1 := G1.out.size
  rw [World.size_alloc] at hs1
  exact ((((Below.refl _ _).alloc hbase _).grown G1.out (by rw [World.size_alloc]; omega) (row_base HO'.out)).grown g2 (by omega) (row_base O1.out))

set_option maxHeartbeats 1000000 in
theorem append_nil (vb : Value) (h : Int) (nb : Nat) (xs : List Value) (base : Nat) (w : World) (hnb : nb ≤ 1024)
    (hown : w.ownsRow base 5 1 vb nb xs) (hbase : base ≤ w.heap.size) :
    Calls Ybaf.prog 4 #[vb, .int .u8 h, .slice none 0 0] w fun e w' => AppOk e w' base (nb + 2) (xs ++ [.int .u8 h, .int .u8 0]) ∧ Below base w w' := by
  obtain ⟨i5, hi5, hz5, hs5, hb5⟩ := info_parts info5
  have I5 : Hid (Ybaf.prog.info? 5 = some i5 ∧ i5.zero = some (.int .u8 0) ∧ i5.size = 1 ∧ i5.bytes = 1) := ⟨hi5, hz5, hs5, hb5⟩
  have HO' : Hid ((w.alloc (.cells #[.int .u8 h, .int .u8 0] 5)).ownsRow base 5 1 vb nb xs) := own_kept ((Below.refl _ _).alloc (Nat.le_refl _) _) hown
  clear hi5 hz5 hs5 hb5 hown
  go_enter Ybaf.func4, Ybaf.ntmps4
  go_wp2_with (first
    | (at_builtin; refine wpList_append_own _ rfl _ _ 22 rfl base 5 i5 (.int .u8 0) 1 1 Ybaf.underlying22 I5.out.1 I5.out.2.1 I5.out.2.2.1 I5.out.2.2.2 rfl (by decide) vb nb xs rfl HO'.out ⟨w.heap.size, 0, none⟩ 2 2 [.int .u8 h, .int .u8 0] rfl rfl (cell_two_new _ _ _ _) (fun x hx => by simp at hx; rcases hx with rfl | rfl <;> rfl) (by unfold maxLen; omega) (by omega) (by simp; omega) ?_; intro v1 w1 own1 g1 _; have O1 : Hid (w1.ownsRow base 5 1 v1 (nb + 2) (xs ++ [.int .u8 h, .int .u8 0])) := own1; have G1 : Hid ((w.alloc (.cells #[.int .u8 h, .int .u8 0] 5)).grownBy w1 vb.ownBlock) := g1; clear own1 g1)
    | (at_builtin; refine wpList_append_own_none rfl _ _ 22 rfl base 5 i5 1 Ybaf.underlying22 I5.out.1 v1 (nb + 2) (xs ++ [.int .u8 h, .int .u8 0]) rfl O1.out rfl ?_))
  go_ret2
  refine ⟨⟨v1, rfl, O1.out⟩, ?_⟩
  exact (((Below.refl _ _).alloc hbase _).grown G1.out (by rw [World.size_alloc]; omega) (row_base HO'.out))
end Go.Proofs.YbulktymFmt
