/- The row's step of LawS1009AModel: what came in is opened ('AzIn'), the walk is run, what came in reads as before. By the pattern of the frame that the kit's tool writes for slices. -/
import Derived.Test.YbulktwiLaw
import Derived.ShutString
import Derived.ChangeOld
import Derived.Below
import Derived.Deep.Slices
namespace Go.Proofs.Ybulktwi.lawS1009AModel
open Go.ChangeShapes Go.WideShapes Go.ChangeAt Go.RowKit
open Go.ChangeMaps (open_string shut_string)
set_option linter.unusedVariables false

theorem own : ownKnob Yba.prog.godebug = none := by kernel_rfl
theorem laidOut : laidOutB Yba.prog = true := by kernel_rfl
theorem cells56 : Yba.prog.cellsOf 56 = 2 := by kernel_rfl
theorem cells37 : Yba.prog.cellsOf 37 = 2 := by kernel_rfl
theorem cells5 : Yba.prog.cellsOf 5 = 1 := by kernel_rfl
theorem cells2 : Yba.prog.cellsOf 2 = 1 := by kernel_rfl
theorem cells4 : Yba.prog.cellsOf 4 = 1 := by kernel_rfl
theorem cells35 : Yba.prog.cellsOf 35 = 1 := by kernel_rfl

section
variable {H : Type} {enc : TypeId × Value → H} {W : World} {base : Nat} {sp : Nat → Bool} {held : Bool}

theorem plain_addr {a : Addr} {v : Value} (h : W.cell? ((a.add (0 * 2)).add 0) = some v) : ∃ b off, a = ⟨b, off, none⟩ := by
  obtain ⟨b, off, spot⟩ := a
  have hspot : spot = none := by simpa [Addr.add] using World.cell?_spot h
  subst hspot
  exact ⟨b, off, rfl⟩

theorem two_cells {a : Addr} {i : Nat} {cs : List Value} (h : W.cells? base (a.add (i * 2)) 2 = some cs) :
    ∃ v0 v1, cs = [v0, v1] ∧ W.cell? ((a.add (i * 2)).add 0) = some v0 ∧ W.cell? ((a.add (i * 2)).add 1) = some v1 := by
  obtain ⟨_, hlen, hc⟩ := World.cells?_some h
  match cs, hlen with
  | [v0, v1], _ => exact ⟨v0, v1, rfl, hc 0 (by omega), hc 1 (by omega)⟩

theorem open_chals {fuel : Nat} {v : Value} {x : DataW H × List MemPlace} (h : DataW.trod enc Yba.prog W base sp held fuel 35 [v] = some x) : ∃ chs, ChalsIn W v chs := by
  rcases Go.Deep.open_slice Yba.underlying35 h with ⟨hcs, _⟩ | ⟨a, len, cap, m, n, D, Pl, hcs, _, hl, hm, hmm, _, hx⟩
  · simp only [List.cons.injEq, and_true] at hcs
    exact ⟨[], none, 0, hcs, by simp, fun k hk => absurd hk (by simp)⟩
  · simp only [List.cons.injEq, and_true] at hcs
    have hlm : len ≤ m := by rw [hmm]; split <;> omega
    simp only [cells56] at hx
    have hpl : 0 < len → ∃ b off, a = ⟨b, off, none⟩ := fun h0 => by
      obtain ⟨cs', h1, _⟩ := hx 0 (by omega)
      obtain ⟨v0, v1, _, e0, _⟩ := two_cells h1
      exact plain_addr e0
    have hone : ∀ i, i < len → ∃ p : Int × Int, Fits p ∧ ∃ b off, a = ⟨b, off, none⟩ ∧ W.cell? ⟨b, off + i * 2, none⟩ = some (.int .u8 p.1) ∧ W.cell? ⟨b, off + i * 2 + 1, none⟩ = some (.int .i64 p.2) := by
      intro i hi
      obtain ⟨cs', h1, h2⟩ := hx i (by omega)
      obtain ⟨v0, v1, rfl, e0, e1⟩ := two_cells h1
      obtain ⟨y0, y1, n', _, _, g0, g1⟩ := trod_struct2 Yba.underlying56 h2
      have g0' : DataW.trod enc Yba.prog W base sp held n' 5 [v0] = some y0 := by simpa [cells5] using g0
      have g1' : DataW.trod enc Yba.prog W base sp held n' 2 [v1] = some y1 := by simpa [cells2] using g1
      obtain ⟨s, hs, _, ws⟩ := DataW.trod_int Yba.underlying5 g0'
      obtain ⟨u, hu, _, wu⟩ := DataW.trod_int Yba.underlying2 g1'
      simp only [List.cons.injEq, and_true] at hs hu
      subst hs hu
      obtain ⟨b, off, rfl⟩ := hpl (by omega)
      rw [add_plain, add_plain] at e0 e1
      exact ⟨(s, u), ⟨bounds_u8 ws, bounds_i64 wu⟩, b, off, rfl, e0, e1⟩
    obtain ⟨f, hf⟩ := Go.Deep.choose_lt hone
    refine ⟨(List.range len).map f, some a, cap, by simpa using hcs, by rw [List.length_map, List.length_range]; exact Nat.le_trans hl hm, fun k hk => ?_⟩
    have hk' : k < len := by simpa using hk
    have hg : ((List.range len).map f).getD k (0, 0) = f k := by simp [List.getD, hk']
    rw [hg]
    obtain ⟨hfit, b, off, ha, c0, c1⟩ := hf k hk'
    exact ⟨hfit, b, off, by rw [ha], c0, c1⟩

theorem open_azs {fuel : Nat} {v : Value} {x : DataW H × List MemPlace} (h : DataW.trod enc Yba.prog W base sp held fuel 22 [v] = some x) : ∃ azs, AzIn W v azs := by
  rcases Go.Deep.open_slice Yba.underlying22 h with ⟨hcs, _⟩ | ⟨a, len, cap, m, n, D, Pl, hcs, _, hl, hm, hmm, _, hx⟩
  · simp only [List.cons.injEq, and_true] at hcs
    exact ⟨[], none, 0, hcs, by simp, fun k hk => absurd hk (by simp)⟩
  · simp only [List.cons.injEq, and_true] at hcs
    have hlm : len ≤ m := by rw [hmm]; split <;> omega
    simp only [cells37] at hx
    have hpl : 0 < len → ∃ b off, a = ⟨b, off, none⟩ := fun h0 => by
      obtain ⟨cs', h1, _⟩ := hx 0 (by omega)
      obtain ⟨v0, v1, _, e0, _⟩ := two_cells h1
      exact plain_addr e0
    have hone : ∀ i, i < len → ∃ z : Az, ∃ b off, a = ⟨b, off, none⟩ ∧ W.cell? ⟨b, off + i * 2, none⟩ = some (.bool z.1) ∧ ∃ vc, W.cell? ⟨b, off + i * 2 + 1, none⟩ = some vc ∧ ChalsIn W vc z.2 := by
      intro i hi
      obtain ⟨cs', h1, h2⟩ := hx i (by omega)
      obtain ⟨v0, v1, rfl, e0, e1⟩ := two_cells h1
      obtain ⟨y0, y1, n', _, _, g0, g1⟩ := trod_struct2 Yba.underlying37 h2
      have g0' : DataW.trod enc Yba.prog W base sp held n' 4 [v0] = some y0 := by simpa [cells4] using g0
      have g1' : DataW.trod enc Yba.prog W base sp held n' 35 [v1] = some y1 := by simpa [cells35] using g1
      obtain ⟨d, hd, _⟩ := DataW.trod_bool Yba.underlying4 g0'
      simp only [List.cons.injEq, and_true] at hd
      subst hd
      obtain ⟨chs, hchs⟩ := open_chals g1'
      obtain ⟨b, off, rfl⟩ := hpl (by omega)
      rw [add_plain, add_plain] at e0 e1
      exact ⟨(d, chs), b, off, rfl, e0, v1, e1, hchs⟩
    obtain ⟨f, hf⟩ := Go.Deep.choose_lt hone
    refine ⟨(List.range len).map f, some a, cap, by simpa using hcs, by rw [List.length_map, List.length_range]; exact Nat.le_trans hl hm, fun k hk => ?_⟩
    have hk' : k < len := by simpa using hk
    have hg : ((List.range len).map f).getD k (false, []) = f k := by simp [List.getD, hk']
    rw [hg]
    obtain ⟨b, off, ha, c0, vc, c1, hc⟩ := hf k hk'
    exact ⟨b, off, by rw [ha], c0, vc, c1, hc⟩
end

set_option maxRecDepth 100000 in
theorem lifted (os : Os) (started : os.Started) (H : Type) (enc : TypeId × Value → H) :
    ReturnsInHanded {} Yba.checked os 3 .any (Rows.lawS1009AModelSpec.pre6 enc Yba.prog Yba.f3 Rows.lawS1009AModelRow.domain false) (Rows.lawS1009AModelSpec.post enc Yba.prog Yba.f3 false true false false) := by
  refine returnsInHanded_of_change (C := Yba.checked) own started (by kernel_rfl) Yba.func3
    (ChangeSpec.witness6 (enc := enc) (C := Yba.checked) false ⟨#[], #[.string ⟨#[]⟩, .bool false, .bool false, .int .i64 0, .slice none 0 0, .int .i64 0], []⟩ 8 (by kernel_rfl) (by kernel_rfl) (by kernel_rfl) (by kernel_rfl)) ?_
  intro W base args ds gs before hval0 hW hcnd _
  have hval : ∀ (j : Nat) t v, Yba.f3.params[j]? = some t → args[j]? = some v → Value.okWide Yba.prog W .any base t v := hval0
  have hW' := hW
  obtain ⟨p, q, hA0, hV, rfl, hfz, hnd⟩ := hW
  have hA : DataW.TrodAll enc Yba.prog W 0 (fun _ => true) true Yba.f3.params.toList args.toList ds p := hA0
  rw [Yba.params3] at hA hval
  obtain ⟨v0, vs0, d0, ds0, p0, q0, hargs, rfl, rfl, h0, r0⟩ := trodAll_cons hA
  obtain ⟨v1, vs1, d1, ds1, p1, q1, rfl, rfl, rfl, h1, r1⟩ := trodAll_cons r0
  obtain ⟨v2, vs2, d2, ds2, p2, q2, rfl, rfl, rfl, h2, r2⟩ := trodAll_cons r1
  obtain ⟨v3, vs3, d3, ds3, p3, q3, rfl, rfl, rfl, h3, r3⟩ := trodAll_cons r2
  obtain ⟨v4, vs4, d4, ds4, p4, q4, rfl, rfl, rfl, h4, r4⟩ := trodAll_cons r3
  obtain ⟨v5, vs5, d5, ds5, p5, q5, rfl, rfl, rfl, h5, r5⟩ := trodAll_cons r4
  obtain ⟨rfl, rfl, rfl⟩ := trodAll_nil r5
  obtain rfl : args = #[v0, v1, v2, v3, v4, v5] := by cases args; simp_all
  obtain ⟨rfl, rfl⟩ := trodVars_none hV
  obtain ⟨s0, rfl, rfl, rfl, hs0⟩ := open_string Yba.underlying9 (hval 0 9 v0 rfl rfl) h0
  obtain ⟨b1, rfl, rfl, rfl⟩ := open_bool Yba.underlying4 (hval 1 4 v1 rfl rfl) h1
  obtain ⟨b2, rfl, rfl, rfl⟩ := open_bool Yba.underlying4 (hval 2 4 v2 rfl rfl) h2
  obtain ⟨a3, rfl, rfl, rfl, w3⟩ := open_int Yba.underlying2 (hval 3 2 v3 rfl rfl) h3
  obtain ⟨x4, len4, cap4, rfl⟩ := okWide_slice Yba.underlying22 (hval 4 22 v4 rfl rfl)
  obtain ⟨a5, rfl, rfl, rfl, w5⟩ := open_int Yba.underlying2 (hval 5 2 v5 rfl rfl) h5
  have k4 := h4
  have lt4 : ∀ x ∈ p4, x.block < W.heap.size := by obtain ⟨m, hm⟩ := k4; exact DataW.trod_lt m _ _ _ hm
  obtain ⟨azs, hazs⟩ : ∃ azs, AzIn W (.slice x4 len4 cap4) azs := by
    obtain ⟨fuel, hf⟩ := h4
    exact open_azs hf
  obtain ⟨x0, x1⟩ := bounds_i64 w3
  obtain ⟨n0, n1⟩ := bounds_i64 w5
  clear hA0 hval0
  refine (law_walk s0 b1 b2 a3 a5 _ azs W hazs x0 x1 n0 n1).mono fun e W' ⟨he, bel⟩ => ?_
  subst he
  exact ⟨_, rfl, _, _, _, [], _, [], hW', trodAll_mk1 (shut_bool Yba.underlying4 _), (trodAll_cons_mk (shut_string Yba.underlying9 hs0) (trodAll_cons_mk (shut_bool Yba.underlying4 _) (trodAll_cons_mk (shut_bool Yba.underlying4 _) (trodAll_cons_mk (shut_int Yba.underlying2 w3) (trodAll_cons_mk (Below.trod laidOut (by kernel_rfl) (of_decide_eq_true (by kernel_rfl)) k4 bel lt4) (trodAll_cons_mk (shut_int Yba.underlying2 w5) trodAll_mk0)))))), rfl, bel.frame _, fun h => by cases h⟩

theorem over : Rows.lawS1009AModelRow.holds Yba.pinned (OpenSpec.ofChange Rows.lawS1009AModelSpec) :=
  OpenClaim.holds_of_wide 3 Yba.f3 rfl rfl rfl rfl rfl rfl rfl ⟨rfl, rfl, rfl, rfl, rfl⟩ rfl rfl rfl rfl rfl (by kernel_rfl) Yba.func3 (by kernel_rfl)
    (of_decide_eq_true (by kernel_rfl)) (by unfold Func.isWrapper; first | (rw [if_pos (by decide +kernel)]; kernel_rfl) | (rw [if_neg (by decide +kernel)]; exact ⟨rfl, rfl⟩))
    (fun os started H enc _ => lifted os started H enc)

/-- ████ THE STATEMENT ████ -/
theorem proved : Rows.LawS1009AModelSaid := over
#print axioms proved
end Go.Proofs.Ybulktwi.lawS1009AModel
