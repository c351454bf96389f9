/- The law 'LawS1004CStep': the case split over 'step_zero' and 'step_pos', and the row's step, by the pattern of the frame that the kit's tool wrote for a slice of integers, with an array of integers beside it. -/
import Derived.Test.YbulkttqStepPos
import Derived.WalkKit
import Derived.ProofKit
import Derived.OpenShut
import Derived.ShutString
import Derived.ChangeOld
import Derived.Below
namespace Go.Proofs.Ybulkttq.lawS1004CStep
open Go.ChangeShapes Go.WideShapes Go.ChangeAt Go.RowKit
open Go.ChangeMaps (open_string shut_string)
set_option linter.unusedVariables false

theorem own : ownKnob Yba.prog.godebug = none := by kernel_rfl
theorem laidOut : laidOutB Yba.prog = true := by kernel_rfl

/-- WHAT THE WALK IS TOLD OF A SLICE OF INTEGERS THAT CAME IN: it is nil; or it leads to a row of 'cap' cells, the numbers 'zs' (the first 'len' are its elements, the rest its spare room), each fitting its kind. -/
def IsRow (k : IntKind) (w : World) (a : Option Addr) (len cap : Nat) (zs : List Int) : Prop :=
  (a = none ∧ len = 0 ∧ cap = 0 ∧ zs = []) ∨
  ∃ x, a = some x ∧ len ≤ cap ∧ cap ≤ maxLen ∧ zs.length = cap ∧ (∀ i, i < zs.length → w.cell? (x.add i) = some (.int k (zs.getD i 0))) ∧ ∀ n ∈ zs, (Lit.int k n).wf = true

/-! ### STEP 1: THE WALK: the Go text returns true, AND WRITES NOTHING THAT WAS THERE: 'Below w.heap.size w w'' (Derived/Below.lean: '.refl', '.alloc', '.drew', '.setCell' at a new block, '.trans'). Open each 'IsRow' by 'rcases' AHEAD of 'go_enter'; part every test ahead of the walk. -/
theorem walk (a0 : Int) (zs : List Int) (hz : zs.length = 32) (a2 : Option Addr) (len2 cap2 : Nat) (z2 : List Int) (w : World) (w0 : (Lit.int .u64 a0).wf = true) (w2 : IsRow .i64 w a2 len2 cap2 z2) :
    Calls Yba.prog 3 #[.int .u64 a0, .agg (cellsOf zs), .slice a2 len2 cap2] w fun e w' => e = .returned (.bool true) ∧ Below w.heap.size w w' := by
  obtain ⟨b0, b1⟩ := bounds_u64 w0
  by_cases hz0 : len2 = 0
  · subst hz0
    exact step_zero a0 zs hz a2 cap2 w b0 b1
  rcases w2 with ⟨_, h0, _, _⟩ | ⟨x, rfl, hlc, hcm, hzl, hcell, hwf⟩
  · omega
  · by_cases hbig : len2 ≤ 1024
    · obtain ⟨b, off, rfl, hc⟩ := ints_at hcell (by omega)
      exact step_pos a0 zs hz b off z2 len2 cap2 w b0 b1 (by omega) hbig (fun k hk => hc k (by omega))
    · unfold maxLen at hcm
      have hd : decide (1024 < (len2 : Int)) = true := by simp; omega
      clear hcell hwf
      go_enter Yba.func3, Yba.ntmps3
      go_wp2
      go_ret
      exact ⟨rfl, (Below.refl _ _).alloc (Nat.le_refl _) _⟩

theorem cells23 : Yba.prog.cellsOf 23 = 32 := by kernel_rfl
theorem cells2 : Yba.prog.cellsOf 2 = 1 := by kernel_rfl

set_option maxRecDepth 100000 in
/-- an array of 32 integers that came in -/
theorem open_arr {H : Type} {enc : TypeId × Value → H} {W : World} {r : Reach} {b0 base : Nat} {sp : Nat → Bool} {held : Bool} {v : Value} {d : DataW H} {p : List MemPlace}
    (hv : Value.okWide Yba.prog W r b0 23 v) (h : DataW.Trod enc Yba.prog W base sp held 23 v d p) : ∃ zs : List Int, v = .agg (cellsOf zs) ∧ zs.length = 32 := by
  obtain ⟨cs, rfl, hsz⟩ : ∃ cs, v = .agg cs ∧ cs.size = Yba.prog.cellsOf 23 := by
    simp only [Value.okWide, Yba.underlying23] at hv
    obtain ⟨cs, h1, h2, _⟩ := hv
    exact ⟨cs, h1, h2⟩
  have hc23 := cells23
  have hc2 := cells2
  rw [hc23] at hsz
  obtain ⟨fuel, hf⟩ := h
  obtain ⟨xs, m, _, _, _, hn, hall⟩ := DataW.trod_array Yba.underlying23 hf
  have hint : ∀ v ∈ cs.toList, v = .int .i64 (intOf v) := by
    intro v hvm
    obtain ⟨i, hi, hiv⟩ := List.getElem_of_mem hvm
    have hi' : i < 32 := by simpa [hsz] using hi
    have h1 := hall i hi'
    rw [List.getElem?_eq_getElem (by omega), hc2, Nat.mul_one] at h1
    obtain ⟨n, hn1, _, _⟩ := DataW.trod_int Yba.underlying2 h1
    have h2 : (Value.agg cs).cells.toList = cs.toList := rfl
    rw [h2, List.drop_eq_getElem_cons hi, hiv] at hn1
    simp only [List.take_succ_cons, List.take_zero, List.cons.injEq, and_true] at hn1
    rw [hn1]; rfl
  have hmap : cs.toList.map (Value.int .i64 ∘ intOf) = cs.toList.map id := List.map_congr_left (fun v hv => (hint v hv).symm)
  have e : cellsOf (cs.toList.map intOf) = cs := by
    unfold cellsOf
    rw [List.map_map, hmap, List.map_id, Array.toArray_toList]
  exact ⟨cs.toList.map intOf, by rw [e], by rw [List.length_map, Array.length_toList]; exact hsz⟩

/-! ### THE ROW's STEP: WRITTEN OUT: LEAVE IT -/
set_option maxRecDepth 100000 in
theorem lifted (os : Os) (started : os.Started) (H : Type) (enc : TypeId × Value → H) :
    ReturnsInHanded {} Yba.checked os 3 .any (Rows.lawS1004CStepSpec.pre6 enc Yba.prog Yba.f3 Rows.lawS1004CStepRow.domain false) (Rows.lawS1004CStepSpec.post enc Yba.prog Yba.f3 false true false false) := by
  refine returnsInHanded_of_change (C := Yba.checked) own started (by kernel_rfl) Yba.func3
    (ChangeSpec.witness6 (enc := enc) (C := Yba.checked) false ⟨#[], #[.int .u64 0, .agg (Array.replicate 32 (.int .i64 0)), .slice none 0 0], []⟩ 8 (by kernel_rfl) (by kernel_rfl) (by kernel_rfl) (by kernel_rfl)) ?_
  intro W base args ds gs before hval0 hW hcnd _
  have hval : ∀ (j : Nat) t v, Yba.f3.params[j]? = some t → args[j]? = some v → Value.okWide Yba.prog W .any base t v := hval0
  have hW' := hW
  obtain ⟨p, q, hA0, hV, rfl, hfz, hnd⟩ := hW
  have hA : DataW.TrodAll enc Yba.prog W 0 (fun _ => true) true Yba.f3.params.toList args.toList ds p := hA0
  rw [Yba.params3] at hA hval
  obtain ⟨v0, vs0, d0, ds0, p0, q0, hargs, rfl, rfl, h0, r0⟩ := trodAll_cons hA
  obtain ⟨v1, vs1, d1, ds1, p1, q1, rfl, rfl, rfl, h1, r1⟩ := trodAll_cons r0
  obtain ⟨v2, vs2, d2, ds2, p2, q2, rfl, rfl, rfl, h2, r2⟩ := trodAll_cons r1
  obtain ⟨rfl, rfl, rfl⟩ := trodAll_nil r2
  obtain rfl : args = #[v0, v1, v2] := by cases args; simp_all
  obtain ⟨rfl, rfl⟩ := trodVars_none hV
  obtain ⟨a0, rfl, rfl, rfl, w0⟩ := open_int Yba.underlying22 (hval 0 22 v0 rfl rfl) h0
  have k1 := h1
  have lt1 : ∀ x ∈ p1, x.block < W.heap.size := by obtain ⟨m, hm⟩ := k1; exact DataW.trod_lt m _ _ _ hm
  obtain ⟨zs, rfl, hzs⟩ := open_arr (hval 1 23 v1 rfl rfl) h1
  obtain ⟨a2, len2, cap2, rfl⟩ := okWide_slice Yba.underlying24 (hval 2 24 v2 rfl rfl)
  have k2 := h2
  have lt2 : ∀ x ∈ p2, x.block < W.heap.size := by obtain ⟨m, hm⟩ := k2; exact DataW.trod_lt m _ _ _ hm
  obtain ⟨z2, w2⟩ : ∃ zs, IsRow .i64 W a2 len2 cap2 zs := by
    obtain ⟨fuel, hf⟩ := h2
    rcases open_ints Yba.underlying24 Yba.underlying2 (by kernel_rfl) hf with ⟨hcs, _⟩ | ⟨x, l, c, zs, hcs, _, hl, hm, hz, _, hcell, hwz⟩
    · simp [Value.cells] at hcs
      obtain ⟨rfl, rfl, rfl⟩ := hcs
      exact ⟨[], .inl ⟨rfl, rfl, rfl, rfl⟩⟩
    · simp [Value.cells] at hcs
      obtain ⟨rfl, rfl, rfl⟩ := hcs
      exact ⟨zs, .inr ⟨_, rfl, hl, hm, by simpa using hz, hcell, hwz⟩⟩
  clear hA0 hval0
  refine (walk a0 zs hzs a2 len2 cap2 z2 W w0 w2).mono fun e W' ⟨he, bel⟩ => ?_
  subst he
  exact ⟨_, rfl, _, _, _, [], _, [], hW', trodAll_mk1 (shut_bool Yba.underlying4 _), (trodAll_cons_mk (shut_int Yba.underlying22 w0) (trodAll_cons_mk (Below.trod laidOut (by kernel_rfl) (of_decide_eq_true (by kernel_rfl)) k1 bel lt1) (trodAll_cons_mk (Below.trod laidOut (by kernel_rfl) (of_decide_eq_true (by kernel_rfl)) k2 bel lt2) trodAll_mk0))), rfl, bel.frame _, fun h => by cases h⟩

theorem over : Rows.lawS1004CStepRow.holds Yba.pinned (OpenSpec.ofChange Rows.lawS1004CStepSpec) :=
  OpenClaim.holds_of_wide 3 Yba.f3 rfl rfl rfl rfl rfl rfl rfl ⟨rfl, rfl, rfl, rfl, rfl⟩ rfl rfl rfl rfl rfl (by kernel_rfl) Yba.func3 (by kernel_rfl)
    (of_decide_eq_true (by kernel_rfl)) (by unfold Func.isWrapper; first | (rw [if_pos (by decide +kernel)]; kernel_rfl) | (rw [if_neg (by decide +kernel)]; exact ⟨rfl, rfl⟩))
    (fun os started H enc _ => lifted os started H enc)

/-- ████ THE STATEMENT ████ -/
theorem proved : Rows.LawS1004CStepSaid := over
#print axioms proved
end Go.Proofs.Ybulkttq.lawS1004CStep
