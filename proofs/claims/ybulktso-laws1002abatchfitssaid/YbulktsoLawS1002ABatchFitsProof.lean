/- The law 'LawS1002ABatchFits': the walk over the contracts of batchRun (5) and bits.Mul64 (7, laid off the shelf), in the frame that the kit's tool wrote. -/
import Derived.Test.YbulktsoFits
import Derived.WalkKit
import Derived.ProofKit
import Derived.OpenShut
import Derived.ShutString
namespace Go.Proofs.Ybulktso.lawS1002ABatchFits
open Go.ChangeShapes Go.WideShapes Go.ChangeAt Go.RowKit
open Go.ChangeMaps (open_string shut_string)
set_option linter.unusedVariables false      -- a walk need not use every 'w<i>' (that an integer argument fits its kind)

theorem own : ownKnob Yba.prog.godebug = none := by kernel_rfl

/-! ### STEP 1: THE WALK: the Go text returns true. 'Grown w w'': the world has at most new blocks (Derived/RowKit3.lean). Part the cases AHEAD of 'go_enter' where a test parts the walk; take each callee by a contract of your own. -/
theorem walk (a0 : Int) (w0 : (Lit.int .u64 a0).wf = true) (w : World) :
    Calls Yba.prog 4 #[.int .u64 a0] w fun e w' => e = .returned (.bool true) ∧ Grown w w' := by
  have b0 := bounds_u64 w0
  obtain ⟨b0, b1⟩ := b0
  clear w0
  by_cases h17 : a0 ≤ 17
  · go_enter Yba.func4, Yba.ntmps4
    go_wp2
    go_ret
    exact ⟨rfl, Grown.refl _⟩
  obtain ⟨m, rfl⟩ := Int.eq_ofNat_of_zero_le b0
  have hk := kOf_range (m : Int) (by omega)
  obtain ⟨k1, k6, k17⟩ := hk
  have HF : Hid (∀ n : Nat, (n : Int) < kOf m → prodTo m (n + 1) < 18446744073709551616) := fun n hn => fits m n (by omega) (by omega) hn
  go_enter Yba.func4, Yba.ntmps4
  go_wp2_with fail
  refine (batchRun_any m b0 b1 _).mono ?_
  rintro e w1 ⟨rfl, hw1⟩
  subst hw1
  generalize kOf (m : Int) = K at *
  have d1 : decide (K < 1) = false := by simp; omega
  have d2 : decide (6 < K) = false := by simp; omega
  have d3 : decide ((m : Int) - 17 < K) = false := by simp; omega
  go_wp2_with fail
  go_loop [5, 6] (fun p j => ∃ n : Nat, (n : Int) ≤ K ∧ j = .int .i64 n ∧ p = .int .u64 ((prodTo m n : Nat) : Int)) (fun _ j => (K - intOf j).toNat)
  case atStart => exact ⟨0, by omega, rfl, rfl⟩
  case round =>
    obtain ⟨n, hn, rfl, rfl⟩ := hrel
    by_cases hlt : (n : Int) < K
    · have HP : Hid (prodTo m n < 18446744073709551616) := by
        show prodTo m n < 18446744073709551616
        cases n with
        | zero => exact (by decide : (1 : Nat) < 18446744073709551616)
        | succ q => exact HF.out q (by omega)
      generalize hQ : prodTo m n = Q at *
      have HQ : Hid (prodTo m n = Q) := hQ
      clear hQ
      go_wp2_with fail
      have hsub : (m : Int) - n = ((m - n : Nat) : Int) := by omega
      refine (mul_fits Q (m - n) (prodTo m (n + 1)) _ _ rfl hsub HP.out (by omega) (by rw [prodTo, HQ.out]) (HF.out n hlt) _).mono ?_
      rintro e w2 ⟨rfl, hw2⟩
      subst hw2
      clear hsub
      go_wp2
      go_round
      case rel => exact ⟨n + 1, by omega, by go_num, rfl⟩
      case measure => simp [intOf]; omega
    · go_wp2
      go_ret
      exact ⟨rfl, Grown.refl _⟩

/-! ### THE ROW's STEP: WRITTEN OUT: LEAVE IT -/
set_option maxRecDepth 100000 in
theorem lifted (os : Os) (started : os.Started) (H : Type) (enc : TypeId × Value → H) :
    ReturnsInHanded {} Yba.checked os 4 .any (Rows.lawS1002ABatchFitsSpec.pre6 enc Yba.prog Yba.f4 Rows.lawS1002ABatchFitsRow.domain false) (Rows.lawS1002ABatchFitsSpec.post enc Yba.prog Yba.f4 false true false false) := by
  refine returnsInHanded_of_change (C := Yba.checked) own started (by kernel_rfl) Yba.func4
    (ChangeSpec.witness6 (enc := enc) (C := Yba.checked) false ⟨#[], #[.int .u64 0], []⟩ 8 (by kernel_rfl) (by kernel_rfl) (by kernel_rfl) (by kernel_rfl)) ?_
  intro W base args ds gs before hval0 hW hcnd _
  have hval : ∀ (j : Nat) t v, Yba.f4.params[j]? = some t → args[j]? = some v → Value.okWide Yba.prog W .any base t v := hval0
  have hW' := hW
  obtain ⟨p, q, hA0, hV, rfl, hfz, hnd⟩ := hW
  have hA : DataW.TrodAll enc Yba.prog W 0 (fun _ => true) true Yba.f4.params.toList args.toList ds p := hA0
  rw [Yba.params4] at hA hval
  obtain ⟨v0, vs0, d0, ds0, p0, q0, hargs, rfl, rfl, h0, r0⟩ := trodAll_cons hA
  obtain ⟨rfl, rfl, rfl⟩ := trodAll_nil r0
  obtain rfl : args = #[v0] := by cases args; simp_all
  obtain ⟨rfl, rfl⟩ := trodVars_none hV
  obtain ⟨a0, rfl, rfl, rfl, w0⟩ := open_int Yba.underlying22 (hval 0 22 v0 rfl rfl) h0
  clear hA0 hval0
  simp only [List.append_nil] at hW'
  refine (walk a0 w0 W).mono fun e W' ⟨he, hg⟩ => ?_
  subst he
  exact ⟨_, rfl, post_of_same (pa := []) (pv := []) hW' (fun _ _ _ => (trodAll_cons_mk (shut_bool Yba.underlying4 _) trodAll_mk0)) (fun sp _ => (trodAll_cons_mk (shut_int Yba.underlying22 w0) trodAll_mk0)) (fun _ _ => rfl) rfl
    (hg.frame _) hg.2.1 (ok_one (by kernel_rfl) rfl (okWide_bool_mk Yba.underlying4 _))⟩

theorem over : Rows.lawS1002ABatchFitsRow.holds Yba.pinned (OpenSpec.ofChange Rows.lawS1002ABatchFitsSpec) :=
  OpenClaim.holds_of_wide 4 Yba.f4 rfl rfl rfl rfl rfl rfl rfl ⟨rfl, rfl, rfl, rfl, rfl⟩ rfl rfl rfl rfl rfl (by kernel_rfl) Yba.func4 (by kernel_rfl)
    (of_decide_eq_true (by kernel_rfl)) (by unfold Func.isWrapper; first | (rw [if_pos (by decide +kernel)]; kernel_rfl) | (rw [if_neg (by decide +kernel)]; exact ⟨rfl, rfl⟩))
    (fun os started H enc _ => lifted os started H enc)

/-- ████ THE STATEMENT ████ -/
theorem proved : Rows.LawS1002ABatchFitsSaid :=
  over
#print axioms proved
end Go.Proofs.Ybulktso.lawS1002ABatchFits
