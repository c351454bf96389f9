/- package time, continued: Add on the zero Time. -/
import Derived.Test.YbulktwiTime2
namespace Go.Proofs.Ybulktwi
open Go.ChangeShapes Go.WideShapes Go.ChangeAt Go.RowKit

theorem an0 : bits .andNot .u64 0 1073741823 = 0 := by decide +kernel

theorem add_pos (d : Int) (w : World) (d0 : 0 ≤ d) (d1 : d ≤ 9223372036854775807) :
    Calls Yba.prog 8 #[.agg #[.int .u64 0, .int .i64 0, .pointer none], .int .i64 d] w fun e w' =>
      e = .returned (.agg #[.int .u64 (d % 1000000000), .int .i64 (d / 1000000000), .pointer none]) ∧ Below w.heap.size w w' := by
  have m0 := and30 0 (by omega) (by omega)
  have m1 := an0
  have m2 := or0 (d % 1000000000) (by omega) (by omega)
  have m3 := and63 (d % 1000000000) (by omega) (by omega)
  go_enter Yba.func8, Yba.ntmps8
  go_wp2
  go_end0
  go_wp2
  exact bodyPost_ret (v := .agg #[.int .u64 (d % 1000000000), .int .i64 (d / 1000000000), .pointer none]) (by simp [results, Yba.results8, go_sem]) rfl ⟨rfl, ((Below.refl _ _).alloc (Nat.le_refl _) _).alloc (by simp) _⟩

theorem add_neg (d q r : Int) (w : World) (d0 : -9223372036854775808 ≤ d) (d1 : d < 0) (hq : d.tdiv 1000000000 = q) (hr : d.tmod 1000000000 = r) (hqr : 1000000000 * q + r = d) (r0 : -1000000000 < r) (r1 : r < 0) :
    Calls Yba.prog 8 #[.agg #[.int .u64 0, .int .i64 0, .pointer none], .int .i64 d] w fun e w' =>
      e = .returned (.agg #[.int .u64 (r + 1000000000), .int .i64 (q - 1), .pointer none]) ∧ Below w.heap.size w w' := by
  have m0 := and30 0 (by omega) (by omega)
  have m1 := an0
  have m2 := or0 (r + 1000000000) (by omega) (by omega)
  have m3 := and63 (r + 1000000000) (by omega) (by omega)
  have q0 : -9223372037 ≤ q := by omega
  have q1 : q ≤ 0 := by omega
  clear hqr
  go_enter Yba.func8, Yba.ntmps8
  go_wp2
  go_end0
  go_wp2
  exact bodyPost_ret (v := .agg #[.int .u64 (r + 1000000000), .int .i64 (q - 1), .pointer none]) (by simp [results, Yba.results8, go_sem]) rfl ⟨rfl, ((Below.refl _ _).alloc (Nat.le_refl _) _).alloc (by simp) _⟩

theorem add_flat (d q : Int) (w : World) (d0 : -9223372036854775808 ≤ d) (d1 : d < 0) (hq : d.tdiv 1000000000 = q) (hr : d.tmod 1000000000 = 0) (hqr : 1000000000 * q = d) :
    Calls Yba.prog 8 #[.agg #[.int .u64 0, .int .i64 0, .pointer none], .int .i64 d] w fun e w' =>
      e = .returned (.agg #[.int .u64 0, .int .i64 q, .pointer none]) ∧ Below w.heap.size w w' := by
  have m0 := and30 0 (by omega) (by omega)
  have m1 := an0
  have m2 := or0 0 (by omega) (by omega)
  have m3 := and63 0 (by omega) (by omega)
  have q0 : -9223372037 ≤ q := by omega
  have q1 : q ≤ 0 := by omega
  clear hqr
  go_enter Yba.func8, Yba.ntmps8
  go_wp2
  go_end0
  go_wp2
  exact bodyPost_ret (v := .agg #[.int .u64 0, .int .i64 q, .pointer none]) (by simp [results, Yba.results8, go_sem]) rfl ⟨rfl, ((Below.refl _ _).alloc (Nat.le_refl _) _).alloc (by simp) _⟩

/-- (Time).Add of any duration to the zero Time: whole seconds downward, the rest in nanoseconds -/
theorem add_any (d : Int) (w : World) (d0 : -9223372036854775808 ≤ d) (d1 : d ≤ 9223372036854775807) :
    Calls Yba.prog 8 #[.agg #[.int .u64 0, .int .i64 0, .pointer none], .int .i64 d] w fun e w' =>
      e = .returned (.agg #[.int .u64 (d % 1000000000), .int .i64 (d / 1000000000), .pointer none]) ∧ Below w.heap.size w w' := by
  by_cases c : 0 ≤ d
  · exact add_pos d w c d1
  have e1 := Int.mul_tdiv_add_tmod d 1000000000
  have e2 : -1000000000 < d.tmod 1000000000 := Int.neg_lt_of_neg_lt (by have := Int.tmod_lt_of_pos (-d) (show (0 : Int) < 1000000000 by omega); rw [Int.neg_tmod] at this; exact this)
  have e3 : d.tmod 1000000000 ≤ 0 := by have := Int.tmod_nonneg 1000000000 (a := -d) (by omega); rw [Int.neg_tmod] at this; omega
  generalize hq : d.tdiv 1000000000 = q at *
  generalize hr : d.tmod 1000000000 = r at *
  by_cases c2 : r = 0
  · subst c2
    refine (add_flat d q w d0 (by omega) hq hr (by omega)).mono ?_
    rintro e w' ⟨rfl, hb⟩
    have h1 : d % 1000000000 = 0 := by omega
    have h2 : d / 1000000000 = q := by omega
    rw [h1, h2]
    exact ⟨rfl, hb⟩
  · refine (add_neg d q r w d0 (by omega) hq hr e1 e2 (by omega)).mono ?_
    rintro e w' ⟨rfl, hb⟩
    have h1 : d % 1000000000 = r + 1000000000 := by omega
    have h2 : d / 1000000000 = q - 1 := by omega
    rw [h1, h2]
    exact ⟨rfl, hb⟩

/-- later in (seconds, nanoseconds) is later in nanoseconds -/
theorem later_floor (a b : Int) : laterB (a % 1000000000) (a / 1000000000) (b % 1000000000) (b / 1000000000) = decide (b < a) := by
  unfold laterB
  rw [Bool.eq_iff_iff]
  simp only [decide_eq_true_eq]
  omega
theorem zero_floor (a : Int) : (a % 1000000000 == 0 && a / 1000000000 == 0) = decide (a = 0) := by
  rw [Bool.eq_iff_iff]
  simp only [Bool.and_eq_true, beq_iff_eq, decide_eq_true_eq]
  omega
end Go.Proofs.Ybulktwi
