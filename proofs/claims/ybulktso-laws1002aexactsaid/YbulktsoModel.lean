import Derived.Test.YbulktsoBatch
import Derived.RegionTactic
import Derived.ChangeAlike
namespace Go.Proofs.Ybulktso
open Go.ChangeShapes Go.WideShapes Go.ChangeAt Go.RowKit

/-- the thresholds that the first k rounds have passed -/
def passed (i : Int) (k : Nat) : Prop :=
  (0 < k → i ≤ 4294967296) ∧ (1 < k → i ≤ 524288) ∧ (2 < k → i ≤ 16384) ∧ (3 < k → i ≤ 2048) ∧ (4 < k → i ≤ 512)

set_option maxHeartbeats 1000000 in
theorem model_any (i : Int) (h0 : 0 ≤ i) (h1 : i ≤ 18446744073709551615) (w : World) :
    Calls Yba.prog 6 #[.int .u64 i] w fun e w' => e = .returned (.tuple #[.int .i64 (kOf i), .int .u64 (eOf i)]) ∧ Grown w w' := by
  go_enter Yba.func6, Yba.ntmps6
  go_wp2
  go_loop [5] (fun v => ∃ k : Nat, k ≤ 5 ∧ v = .int .i64 k ∧ passed i k) (fun v => 5 - (intOf v).toNat)
  case atStart => exact ⟨0, by omega, rfl, by unfold passed; omega⟩
  case round =>
    obtain ⟨k, hk, rfl, hj⟩ := hrel
    obtain ⟨j0, j1, j2, j3, j4⟩ := hj
    have hk' : k = 0 ∨ k = 1 ∨ k = 2 ∨ k = 3 ∨ k = 4 ∨ k = 5 := by omega
    clear hk
    rcases hk' with rfl | rfl | rfl | rfl | rfl | rfl
    · clear j0 j1 j2 j3 j4
      by_cases hi : 4294967296 < i
      · go_wp2
        go_region
        all_goals
          go_wp2
          go_ret2
          exact ⟨ret2 (by unfold kOf; omega) (by unfold eOf; omega), by repeat (first | exact Grown.refl _ | apply Grown.drew | apply Grown.alloc)⟩
      · go_wp2
        go_round
        case rel => exact ⟨1, by omega, by go_num, by unfold passed; omega⟩
        case measure => simp [intOf]
    · have hp : i ≤ 4294967296 := j0 (by omega)
      have HJ : Hid (passed i 1) := ⟨j0, j1, j2, j3, j4⟩
      clear j0 j1 j2 j3 j4
      by_cases hi : 524288 < i
      · go_wp2
        go_region
        all_goals
          go_wp2
          go_ret2
          have HJ' := HJ.out
          unfold passed at HJ'
          exact ⟨ret2 (by unfold kOf; omega) (by unfold eOf; omega), by repeat (first | exact Grown.refl _ | apply Grown.drew | apply Grown.alloc)⟩
      · go_wp2
        go_round
        case rel => exact ⟨2, by omega, by go_num, by have HJ' := HJ.out; unfold passed at *; omega⟩
        case measure => simp [intOf]
    · have hp : i ≤ 524288 := j1 (by omega)
      have HJ : Hid (passed i 2) := ⟨j0, j1, j2, j3, j4⟩
      clear j0 j1 j2 j3 j4
      by_cases hi : 16384 < i
      · go_wp2
        go_region
        all_goals
          go_wp2
          go_ret2
          have HJ' := HJ.out
          unfold passed at HJ'
          exact ⟨ret2 (by unfold kOf; omega) (by unfold eOf; omega), by repeat (first | exact Grown.refl _ | apply Grown.drew | apply Grown.alloc)⟩
      · go_wp2
        go_round
        case rel => exact ⟨3, by omega, by go_num, by have HJ' := HJ.out; unfold passed at *; omega⟩
        case measure => simp [intOf]
    · have hp : i ≤ 16384 := j2 (by omega)
      have HJ : Hid (passed i 3) := ⟨j0, j1, j2, j3, j4⟩
      clear j0 j1 j2 j3 j4
      by_cases hi : 2048 < i
      · go_wp2
        go_region
        all_goals
          go_wp2
          go_ret2
          have HJ' := HJ.out
          unfold passed at HJ'
          exact ⟨ret2 (by unfold kOf; omega) (by unfold eOf; omega), by repeat (first | exact Grown.refl _ | apply Grown.drew | apply Grown.alloc)⟩
      · go_wp2
        go_round
        case rel => exact ⟨4, by omega, by go_num, by have HJ' := HJ.out; unfold passed at *; omega⟩
        case measure => simp [intOf]
    · have hp : i ≤ 2048 := j3 (by omega)
      have HJ : Hid (passed i 4) := ⟨j0, j1, j2, j3, j4⟩
      clear j0 j1 j2 j3 j4
      by_cases hi : 512 < i
      · go_wp2
        go_region
        all_goals
          go_wp2
          go_ret2
          have HJ' := HJ.out
          unfold passed at HJ'
          exact ⟨ret2 (by unfold kOf; omega) (by unfold eOf; omega), by repeat (first | exact Grown.refl _ | apply Grown.drew | apply Grown.alloc)⟩
      · go_wp2
        go_round
        case rel => exact ⟨5, by omega, by go_num, by have HJ' := HJ.out; unfold passed at *; omega⟩
        case measure => simp [intOf]
    · go_wp2
      all_goals
        go_ret2
        exact ⟨ret2 (by unfold kOf; omega) (by unfold eOf; omega), by repeat (first | exact Grown.refl _ | apply Grown.drew | apply Grown.alloc)⟩
end Go.Proofs.Ybulktso
