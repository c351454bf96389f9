/- The walk of LawS1013BExact. -/
import Derived.Test.YbulktymFmtAppend
import Derived.Deep.WholeRow
import Derived.Deep.DeepCutAuto
import Derived.Deep.QuietTactic
import Derived.BigQuiet
import Derived.WalkSpells
import Derived.OpenShut
namespace Go.Proofs.YbulktymFmt
open Go.RowKit Go.Extern.Stop Go.Stop Go.Extern

/-- a slice of bytes that came in -/
def BytesIn (w : World) (x : Option Addr) (n c : Nat) (zs : List Int) : Prop :=
  zs.length = n ∧ ((x = none ∧ n = 0 ∧ c = 0) ∨ ∃ ad, x = some ad ∧ ∀ j, j < n → w.cell? (ad.add j) = some (.int .u8 (zs.getD j 0)))

/-- the bytes as cells -/
def bytesV (zs : List Int) : List Value := zs.map (Value.int .u8)

theorem bytesV_get {zs : List Int} {j : Nat} {v : Value} (h : (bytesV zs)[j]? = some v) : j < zs.length ∧ v = .int .u8 (zs.getD j 0) := by
  unfold bytesV at h
  rw [List.getElem?_map] at h
  obtain ⟨z, hz, rfl⟩ := Option.map_eq_some_iff.1 h
  have hj := (List.getElem?_eq_some_iff.1 hz).1
  exact ⟨hj, by rw [List.getD, hz]; rfl⟩
theorem bytesV_at {zs : List Int} {j : Nat} (h : j < zs.length) : (bytesV zs)[j]? = some (.int .u8 (zs.getD j 0)) := by
  unfold bytesV
  rw [List.getElem?_map, List.getD, List.getElem?_eq_getElem h]
  rfl
theorem bytesV_one {zs : List Int} : ∀ u ∈ bytesV zs, u.oneCell' = true := by
  intro u hu
  unfold bytesV at hu
  obtain ⟨z, _, rfl⟩ := List.mem_map.1 hu
  rfl
theorem bytesV_len {zs : List Int} : (bytesV zs).length = zs.length := by unfold bytesV; simp

theorem run_mk5 (n : Nat) (hn : n ≤ 1024) (w : World) :
    (Instr.makeSlice 22 (.int .i64 n) (.int .i64 n)).run Ybaf.prog w = .ok (.slice (some ⟨w.heap.size, 0, none⟩) n n) (w.alloc (.cells (madeCells #[.int .u8 0] n) 5)) := by
  obtain ⟨i, hi, h1, h2, h3⟩ := info_parts info5
  have := run_make w 22 5 i _ Ybaf.underlying22 hi h1 .i64 .i64 (n : Int) (n : Int) (by omega) (by omega) (by rw [h3]; omega) (by omega)
  rw [h2] at this
  simpa [Value.cells] using this

section
variable {ops : Array Oper} {rest : List Oper} {o : Oper} {a : Act} {Q : Exit → Act → World → Prop}
/-- copy(bc, b) into the row that was made last -/
theorem wpList_copy_new {W : World} (hgd : o.guard = none) (d s : Operand) (ho : o.op = .call { callee := .builtin .copy, args := #[d, s], argTypes := #[22, 22] }) (ad : Addr) (n c : Nat) (cur : Array Value) (zs : List Int)
    (hd : a.eval d = .slice (some ⟨W.heap.size, 0, none⟩) n n) (hs : a.eval s = .slice (some ad) n c) (hcur : cur.size = n) (hz : zs.length = n)
    (hsrc : ∀ j, j < n → (W.alloc (.cells cur 5)).cell? (ad.add j) = some (.int .u8 (zs.getD j 0)))
    (h : wpList Ybaf.prog ops Q rest (a.put o.dst (.int .i64 n)) (W.alloc (.cells (bytesV zs).toArray 5))) : wpList Ybaf.prog ops Q (o :: rest) a (W.alloc (.cells cur 5)) := by
  refine wpList_copy_own hgd d s 22 22 ho 5 Ybaf.underlying22 (by kernel_rfl) W.heap.size 0 n n ad n c hd hs cur 5 (heap_alloc_new _ _) (bytesV zs) (by rw [bytesV_len, hz]; exact (Nat.min_self n).symm)
    (fun j v hj => by obtain ⟨h1, rfl⟩ := bytesV_get hj; exact hsrc j (by omega)) (by rw [bytesV_len]; omega) bytesV_one ?_
  have e : (cur.toList.take 0 ++ (bytesV zs ++ cur.toList.drop (0 + (bytesV zs).length))).toArray = (bytesV zs).toArray := by
    rw [List.take_zero, List.nil_append, bytesV_len, List.drop_eq_nil_of_le (by rw [Array.length_toList]; omega), List.append_nil]
  rw [e, World.setRow_alloc_new, bytesV_len, hz]
  exact h
end

theorem own_new (w : World) (zs : List Int) (n : Nat) (hz : zs.length = n) (hn : n ≤ 1024) : (w.alloc (.cells (bytesV zs).toArray 5)).ownsRow w.heap.size 5 1 (.slice (some ⟨w.heap.size, 0, none⟩) n n) n (bytesV zs) :=
  ⟨by rw [bytesV_len, hz, Nat.mul_one], .inr ⟨w.heap.size, n, (bytesV zs).toArray, rfl, Nat.le_refl _, heap_alloc_new _ _, Nat.le_refl _, by unfold maxLen; omega, by rw [List.size_toArray, bytesV_len, hz, Nat.mul_one], by rw [List.take_of_length_le (by rw [bytesV_len]; omega)]⟩⟩

theorem append_any (vb : Value) (h : Int) (x : Option Addr) (m c nb : Nat) (xs : List Value) (zp : List Int) (w wc : World) (hm : m ≤ 15) (hnb : nb ≤ 1024)
    (hown : wc.ownsRow w.heap.size 5 1 vb nb xs) (hB : Below w.heap.size w wc) (hp : BytesIn w x m c zp) :
    Calls Ybaf.prog 4 #[vb, .int .u8 h, .slice x m c] wc fun e w' => AppOk e w' w.heap.size (nb + 2 + m) ((xs ++ [.int .u8 h, .int .u8 (m * 16)]) ++ bytesV zp) ∧ Below w.heap.size wc w' := by
  obtain ⟨hz, hcase⟩ := hp
  rcases hcase with ⟨rfl, rfl, rfl⟩ | ⟨ad, rfl, hcell⟩
  · refine (append_nil vb h nb xs w.heap.size wc hnb hown hB.size).mono ?_
    rintro e w' ⟨⟨v', he, ho⟩, hb⟩
    have hzp : zp = [] := List.length_eq_zero_iff.1 hz
    subst hzp
    refine ⟨⟨v', he, ?_⟩, hb⟩
    simpa [bytesV] using ho
  · refine append_short vb h ad m c nb xs (bytesV zp) w.heap.size wc hm hnb hown hB.size (by rw [bytesV_len]; exact hz) (fun j v hj => ?_) (fun h0 => ?_) bytesV_one
    · obtain ⟨h1, rfl⟩ := bytesV_get hj
      have := hcell j (by omega)
      rw [hB.cell (p := ad.add j) (block_lt_of_cell this)]
      exact this
    · have := block_lt_of_cell (hcell 0 h0)
      rwa [add_block] at this

theorem row_cells {w' : World} {base N : Nat} {v : Value} {L : List Value} (h : w'.ownsRow base 5 1 v N L) (hN : 0 < N) :
    ∃ g cap, v = .slice (some ⟨g, 0, none⟩) N cap ∧ ∀ i u, L[i]? = some u → w'.cell? ⟨g, i, none⟩ = some u := by
  obtain ⟨hl, h2⟩ := h
  rcases h2 with ⟨_, h2⟩ | ⟨g, cap, cur, hv, _, hg, _, _, _, ht⟩
  · omega
  · refine ⟨g, cap, hv, fun i u hu => ?_⟩
    have hi := (List.getElem?_eq_some_iff.1 hu).1
    rw [cell_of_row _ _ _ _ _ _ hg, ← hu, ← ht, List.getElem?_take_of_lt (by omega), Array.getElem?_toList]

theorem bytes_at {w : World} {x : Option Addr} {n c : Nat} {zs : List Int} (h : BytesIn w x n c zs) {k : Nat} (hk : k < n) : ∃ b off, x = some ⟨b, off, none⟩ ∧ w.cell? ⟨b, off + k, none⟩ = some (.int .u8 (zs.getD k 0)) := by
  obtain ⟨hz, hcase⟩ := h
  rcases hcase with ⟨_, h0, _⟩ | ⟨ad, hx, hcell⟩
  · omega
  · obtain ⟨b, off, rfl, hc⟩ := ints_at (zs := zs) (fun i hi => hcell i (by omega)) (by omega)
    exact ⟨b, off, hx, hc k (by omega)⟩

set_option maxRecDepth 100000 in
set_option maxHeartbeats 1000000 in
theorem law_walk (F : Interp) (h : Int) (xb xp : Option Addr) (nb cb np cp : Nat) (zb zp : List Int) (w : World) (hF : F.answers w.tape) (hb : BytesIn w xb nb cb zb) (hp : BytesIn w xp np cp zp)
    (hnb : nb ≤ 1024) (hnp : np ≤ 1024) :
    Calls Ybaf.prog 3 #[.slice xb nb cb, .int .u8 h, .slice xp np cp] w fun e w' => e = .returned (.bool true) ∧ Below w.heap.size w w' := by
  have HF : Hid (F.answers w.tape) := hF
  have HBn : Hid (BytesIn w xb nb cb zb) := hb
  have HPn : Hid (BytesIn w xp np cp zp) := hp
  clear hF hb hp
  have d1 : decide (1024 < (nb : Int)) = false := by simp; omega
  have d2 : decide (1024 < (np : Int)) = false := by simp; omega
  have hne := fun w => run_neq_slice_nil_any (P := Ybaf.prog) w 22 5 xb nb cb 0 0 Ybaf.underlying22
  go_enter Ybaf.func3, Ybaf.ntmps3
  go_upto_if 21 with fail
  go_cut [7] (fun s wc => wc.ownsRow w.heap.size 5 1 s nb (bytesV zb) ∧ Below w.heap.size w wc)
  case first =>
    obtain ⟨hz, hcase⟩ := HBn.out
    rcases hcase with ⟨rfl, rfl, rfl⟩ | ⟨ad, rfl, hcell⟩
    · go_wp2_with fail
      go_meet
      exact ⟨⟨by rw [bytesV_len, hz], .inl ⟨rfl, rfl⟩⟩, Below.refl _ _⟩
    · have hmk := run_mk5 nb hnb
      have HS : Hid (∀ j, j < nb → (w.alloc (.cells (madeCells #[.int .u8 0] nb) 5)).cell? (ad.add j) = some (.int .u8 (zb.getD j 0))) := fun j hj => by
        rw [World.cell?_of_block (Below.heap_alloc w _ _ (block_lt_of_cell (hcell j hj)))]; exact hcell j hj
      clear hcell
      go_wp2_with (refine wpList_copy_new rfl _ _ rfl ad nb cb _ zb rfl rfl (by simp [madeCells]) hz HS.out ?_)
      go_meet
      exact ⟨own_new w zb nb hz hnb, (Below.refl _ _).alloc (Nat.le_refl _) _⟩
  case rest =>
    obtain ⟨hown, hbel⟩ := hcut
    clear hne
    have HO : Hid (wc.ownsRow w.heap.size 5 1 u7 nb (bytesV zb)) := hown
    have HB : Hid (Below w.heap.size w wc) := hbel
    clear hown hbel
    by_cases hlong : 15 < np
    · have dl : decide (15 < (np : Int)) = true := by simp; omega
      go_wp2_with fail
      refine (append_long F _ h xp np cp _ (by rw [HB.out.tape]; exact HF.out) hlong hnp).mono ?_
      rintro e w2 ⟨⟨v, rfl⟩, hb2⟩
      have HB2 : Hid (Below w.heap.size w w2) := HB.out.trans (hb2.mono HB.out.size)
      have he := fun w => Lib.run_eql_slice_nil (P := Ybaf.prog) w 22 5 none 0 0 0 0 Ybaf.underlying22
      clear hb2
      go_wp2
      go_ret
      exact ⟨rfl, HB2.out⟩
    · have dl : decide (15 < (np : Int)) = false := by simp; omega
      go_wp2_with fail
      refine (append_any _ h xp np cp nb (bytesV zb) zp w _ (by omega) hnb HO.out HB.out HPn.out).mono ?_
      rintro e w2 ⟨⟨v', rfl, hown'⟩, hb2⟩
      have HB2 : Hid (Below w.heap.size w w2) := HB.out.trans hb2
      obtain ⟨g, cap, rfl, hcells⟩ := row_cells hown' (by omega)
      have hzb := HBn.out.1
      have hzp := HPn.out.1
      have CB : Hid (∀ i, i < nb → w2.cell? ⟨g, i, none⟩ = some (.int .u8 (zb.getD i 0))) := fun i hi => hcells i _ (by
        rw [List.append_assoc, List.getElem?_append_left (by rw [bytesV_len]; omega)]; exact bytesV_at (by omega))
      have cH : w2.cell? ⟨g, nb, none⟩ = some (.int .u8 h) := hcells nb _ (by
        rw [List.append_assoc, List.getElem?_append_right (by rw [bytesV_len]; omega), bytesV_len, hzb, Nat.sub_self]; rfl)
      have cL : w2.cell? ⟨g, nb + 1, none⟩ = some (.int .u8 (np * 16)) := hcells (nb + 1) _ (by
        rw [List.append_assoc, List.getElem?_append_right (by rw [bytesV_len]; omega), bytesV_len, hzb, Nat.add_sub_cancel_left]; rfl)
      have CP : Hid (∀ i, i < np → w2.cell? ⟨g, nb + 2 + i, none⟩ = some (.int .u8 (zp.getD i 0))) := fun i hi => hcells (nb + 2 + i) _ (by
        rw [List.getElem?_append_right (by rw [List.length_append, bytesV_len, hzb]; show nb + 2 ≤ nb + 2 + i; omega), List.length_append, bytesV_len, hzb]
        show (bytesV zp)[nb + 2 + i - (nb + 2)]? = _
        rw [Nat.add_sub_cancel_left]; exact bytesV_at (by omega))
      clear hcells hown' hb2 hzb hzp
      have hln : (((nb + 2 + np : Nat) : Int) != (nb : Int) + 2 + np) = false := by simp
      go_wp2
      go_loopw [10] (fun i wr => ∃ (k : Nat) (nq : Nat), k ≤ nb ∧ i = .int .i64 k ∧ wr = w2.drewN nq) (fun i _ => nb - (intOf i).toNat)
      case atStart => exact ⟨0, 0, by omega, rfl, rfl⟩
      case round =>
        obtain ⟨k, nq, hk, rfl, rfl⟩ := hrel
        by_cases hlt : k < nb
        · obtain ⟨b, off, rfl, hc⟩ := bytes_at HBn.out hlt
          have c1 := CB.out k hlt
          have c2 := (HB2.out.cell (p := ⟨b, off + k, none⟩) (block_lt_of_cell hc)).trans hc
          clear hc
          generalize zb.getD k 0 = z at *
          have hzz : (z != z) = false := by simp
          have hki : (k : Int) < (nb : Int) := by omega
          have hki2 : (k : Int) < (nb : Int) + 2 + np := by omega
          go_wp2_with fail
          go_quiet (fail)
          go_wp2
          go_roundw
          case rel => exact ⟨k + 1, _, by omega, by go_num, rfl⟩
          case measure => simp [intOf]; omega
        · have hi1 : (nb : Int) < (nb : Int) + 2 + np := by omega
          have hhh : (h != h) = false := by simp
          have hll : (((np : Int) * 16) != ((np : Int) * 16)) = false := by simp
          go_wp2
          go_loopw [11] (fun i wr => ∃ (k : Nat) (nq : Nat), k ≤ np ∧ i = .int .i64 k ∧ wr = w2.drewN nq) (fun i _ => np - (intOf i).toNat)
          case atStart => exact ⟨0, nq, by omega, rfl, rfl⟩
          case round =>
            obtain ⟨k2, nq2, hk2, rfl, rfl⟩ := hrel
            by_cases hlt2 : k2 < np
            · obtain ⟨b, off, rfl, hc⟩ := bytes_at HPn.out hlt2
              have c1 := CP.out k2 hlt2
              have c2 := (HB2.out.cell (p := ⟨b, off + k2, none⟩) (block_lt_of_cell hc)).trans hc
              clear hc
              generalize zp.getD k2 0 = z at *
              have hzz : (z != z) = false := by simp
              have hki : (k2 : Int) < (np : Int) := by omega
              have hki2 : (nb : Int) + 2 + k2 < (nb : Int) + 2 + np := by omega
              go_wp2_with fail
              go_quiet (fail)
              go_wp2
              go_roundw
              case rel => exact ⟨k2 + 1, _, by omega, by go_num, rfl⟩
              case measure => simp [intOf]; omega
            · go_wp2
              go_ret
              have hB := HB2.out
              exact ⟨rfl, ⟨hB.os, hB.tape, hB.output, hB.size, hB.block⟩⟩

theorem law_big (h : Int) (xb xp : Option Addr) (nb cb np cp : Nat) (w : World) (hl : nb ≤ 9223372036854775807) (hl2 : np ≤ 9223372036854775807) (hbig : 1024 < nb ∨ 1024 < np) :
    Calls Ybaf.prog 3 #[.slice xb nb cb, .int .u8 h, .slice xp np cp] w fun e w' => e = .returned (.bool true) ∧ Below w.heap.size w w' := by
  by_cases hb : 1024 < nb
  · have d1 : decide (1024 < (nb : Int)) = true := by simp; omega
    clear hbig
    go_enter Ybaf.func3, Ybaf.ntmps3
    go_wp2
    go_ret
    exact ⟨rfl, Below.refl _ _⟩
  · have hp : 1024 < np := by omega
    have d1 : decide (1024 < (nb : Int)) = false := by simp; omega
    have d2 : decide (1024 < (np : Int)) = true := by simp; omega
    clear hbig
    go_enter Ybaf.func3, Ybaf.ntmps3
    go_wp2
    go_ret
    exact ⟨rfl, Below.refl _ _⟩
end Go.Proofs.YbulktymFmt
