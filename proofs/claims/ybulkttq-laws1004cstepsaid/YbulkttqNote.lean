import Derived.Test.YbulkttqRows
import Derived.WalkKit
import Derived.ProofKit
import Derived.OpenShut
import Derived.WalkSpells
import Derived.RegionTactic
import Derived.ChangeAlike
namespace Go.Proofs.Ybulkttq
open Go.ChangeShapes Go.WideShapes Go.ChangeAt Go.RowKit

/-- 'Region.bounds' of the empty region -/
theorem bounds_nil (s : Value) (w : World) :
    Calls Yba.prog 7 #[.agg #[s, .pointer none]] w fun e w' => e = .returned (.slice none 0 0) ∧ w' = w.alloc (.cells #[s, .pointer none] 45) := by
  go_enter Yba.func7, Yba.ntmps7
  go_wp2
  go_ret
  exact ⟨rfl, rfl⟩

/-- 'Region.bounds' of a region with a form -/
theorem bounds_some (s v : Value) (g : Nat) (w : World) (hg : w.cell? ⟨g, 2, none⟩ = some v) (hb : g < w.heap.size) :
    Calls Yba.prog 7 #[.agg #[s, .pointer (some ⟨g, 0, none⟩)]] w fun e w' => e = .returned v ∧ w' = w.alloc (.cells #[s, .pointer (some ⟨g, 0, none⟩)] 45) := by
  have hg' : ∀ o, (w.alloc o).cell? ⟨g, 2, none⟩ = some v := fun o => by
    rw [World.cell?_of_block (w := w) (Below.heap_alloc w o g hb)]; exact hg
  go_enter Yba.func7, Yba.ntmps7
  go_wp2
  go_ret
  exact ⟨rfl, rfl⟩

theorem note_nil (s : Value) (b : Nat) (w : World) :
    Calls Yba.prog 5 #[.pointer (some ⟨b, 0, none⟩), .agg #[s, .pointer none]] w fun e w' => e = .returned (.tuple #[]) ∧ Below w.heap.size w w' := by
  go_enter Yba.func5, Yba.ntmps5
  go_wp2_with fail
  refine (bounds_nil _ _).mono ?_
  rintro e w1 ⟨rfl, hw⟩
  subst hw
  go_wp2
  go_end0
  exact ⟨rfl, ((Below.refl _ _).alloc (Nat.le_refl _) _).alloc (by simp) _⟩

theorem note_some (s : Value) (b g h : Nat) (n c : Nat) (a l0 : Int) (v0 : Value) (w : World)
    (a0 : 0 ≤ a) (a1 : a ≤ 9223372036854775807) (hn : 0 < n)
    (hg : w.cell? ⟨g, 2, none⟩ = some (.slice (some ⟨h, 0, none⟩) n c)) (hh : w.cell? ⟨h, 0, none⟩ = some (.int .i64 l0))
    (hask : w.cell? ⟨b, 38, none⟩ = some (.int .i64 a)) (hslot : w.cell? ⟨b, 6 + (a % 32).toNat, none⟩ = some v0)
    (f0 : ∀ o, w.frozen? ⟨b, o, none⟩ = false) :
    Calls Yba.prog 5 #[.pointer (some ⟨b, 0, none⟩), .agg #[s, .pointer (some ⟨g, 0, none⟩)]] w fun e w' => e = .returned (.tuple #[]) ∧
      Below w.heap.size ((w.setCell ⟨b, 6 + (a % 32).toNat, none⟩ (.int .i64 l0)).setCell ⟨b, 38, none⟩ (.int .i64 (wrap64 (a + 1)))) w' := by
  have lb := block_lt_of_cell hask
  have lg := block_lt_of_cell hg
  have lh := block_lt_of_cell hh
  simp only at lb lg lh
  have hk : (w.setCell ⟨b, 6 + (a % 32).toNat, none⟩ (.int .i64 l0)).cell? ⟨b, 38, none⟩ = some (.int .i64 a) :=
    (World.cell?_setCell_other w _ _ _ (by intro e; injection e with e1 e2; omega)).trans hask
  go_enter Yba.func5, Yba.ntmps5
  go_wp2_with fail
  refine (bounds_some _ _ g _ (by rw [World.cell?_of_block (Below.heap_alloc w _ g lg)]; exact hg) (by simp; omega)).mono ?_
  rintro e w1 ⟨rfl, hw⟩
  subst hw
  go_wp2
  go_region
  go_wp2
  go_end0
  exact ⟨rfl, ((((Below.refl _ _).alloc (by simp [World.setCell]) _).alloc (by simp [World.setCell]) _)).drew⟩
end Go.Proofs.Ybulkttq
