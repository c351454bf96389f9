/- (*order).status, (*order).isClosed -/
import Derived.Test.YbulktwiAuthz
namespace Go.Proofs.Ybulktwi
open Go.ChangeShapes Go.WideShapes Go.ChangeAt Go.RowKit

theorem authz_any (a o : Nat) (z : Az) (now exp : Int) (w : World) (ha : AuthzAt w a o z) (hx : ¬ exp < now) (hn : z.2.length ≤ 1024)
    (e7 : w.cell? ⟨o, 7, none⟩ = some (.int .u64 (exp % 1000000000))) (e8 : w.cell? ⟨o, 8, none⟩ = some (.int .i64 (exp / 1000000000))) (e9 : w.cell? ⟨o, 9, none⟩ = some (.pointer none)) :
    Calls Yba.prog 17 #[.pointer (some ⟨a, 0, none⟩), .agg #[.int .u64 (now % 1000000000), .int .i64 (now / 1000000000), .pointer none]] w fun e w' =>
      (∃ st, e = .returned (.tuple #[.string st, .pointer none]) ∧ StOk st (azBad now z)) ∧ Below w.heap.size w w' := by
  cases hd : z.1 with
  | true => exact authz_deact a o z now w ha hd
  | false => exact authz_open a o z now exp w ha hd hx hn e7 e8 e9

/-- what order.status says -/
def OrdOk (st : ByteArray) (b : Bool) : Prop := if b then (st = sValid ∨ st = sInvalid) else (st = sProcessing ∨ st = sReady ∨ st = sPending)

theorem closed_any {cert : ByteArray} {exp now : Int} (azs : List Az) (hc : cert.toList.isEmpty = true) (hx : now ≤ exp) : closedB cert false false exp now azs = azs.any (azBad now) := by
  unfold closedB
  rw [if_pos hc, if_neg (by simp), if_neg (by simp), if_neg (by omega)]
theorem any_true {now : Int} {azs : List Az} {k : Nat} (hk : k < azs.length) (h : azBad now (azs.getD k (false, [])) = true) : azs.any (azBad now) = true := by
  rw [List.getD, List.getElem?_eq_getElem hk] at h
  exact List.any_eq_true.2 ⟨_, List.getElem_mem hk, h⟩
theorem any_false {now : Int} {azs : List Az} (h : ∀ j, j < azs.length → azBad now (azs.getD j (false, [])) = false) : azs.any (azBad now) = false := by
  rw [List.any_eq_false]
  intro z hz
  obtain ⟨i, hi, rfl⟩ := List.getElem_of_mem hz
  have := h i hi
  rw [List.getD, List.getElem?_eq_getElem hi] at this
  simpa using this

set_option maxHeartbeats 1000000 in
theorem order_status (o : Nat) (cert : ByteArray) (sg ref : Bool) (exp now : Int) (azs : List Az) (w : World) (ho : OrderAt w o cert sg ref exp azs)
    (hn : azs.length ≤ 1024) (hch : ∀ z ∈ azs, z.2.length ≤ 1024) :
    Calls Yba.prog 11 #[.pointer (some ⟨o, 0, none⟩), .agg #[.int .u64 (now % 1000000000), .int .i64 (now / 1000000000), .pointer none]] w fun e w' =>
      (∃ st p, e = .returned (.tuple #[.string st, p]) ∧ OrdOk st (closedB cert sg ref exp now azs)) ∧ Below w.heap.size w w' := by
  obtain ⟨v, r, hv, hr, hp⟩ := ho
  have b11 : w.cell? ⟨o, 11, none⟩ = some (.string cert) := by rw [cell_of_row _ _ _ _ _ _ hv]; rfl
  have b10 : w.cell? ⟨o, 10, none⟩ = some (.bool sg) := by rw [cell_of_row _ _ _ _ _ _ hv]; rfl
  have b12 : w.cell? ⟨o, 12, none⟩ = some r := by rw [cell_of_row _ _ _ _ _ _ hv]; rfl
  have b6 : w.cell? ⟨o, 6, none⟩ = some v := by rw [cell_of_row _ _ _ _ _ _ hv]; rfl
  have e7 : w.cell? ⟨o, 7, none⟩ = some (.int .u64 (exp % 1000000000)) := by rw [cell_of_row _ _ _ _ _ _ hv]; rfl
  have e8 : w.cell? ⟨o, 8, none⟩ = some (.int .i64 (exp / 1000000000)) := by rw [cell_of_row _ _ _ _ _ _ hv]; rfl
  have e9 : w.cell? ⟨o, 9, none⟩ = some (.pointer none) := by rw [cell_of_row _ _ _ _ _ _ hv]; rfl
  have lo := lt_of_block hv
  clear hv
  by_cases hc' : cert.toList.isEmpty = false
  · clear hp hr b10 b12 b6 e7 e8 e9
    go_enter Yba.func11, Yba.ntmps11
    go_wp2
    go_ret2
    exact ⟨⟨sValid, _, rfl, by unfold closedB; rw [hc']; simp [OrdOk]⟩, (Below.refl _ _).alloc (Nat.le_refl _) _⟩
  have hc : cert.toList.isEmpty = true := by simpa using hc'
  clear hc'
  cases hsg : sg with
  | true =>
    subst hsg
    clear hp hr b12 b6 e7 e8 e9
    go_enter Yba.func11, Yba.ntmps11
    go_wp2
    go_ret2
    exact ⟨⟨sProcessing, _, rfl, by unfold closedB; rw [hc]; simp [OrdOk]⟩, (Below.refl _ _).alloc (Nat.le_refl _) _⟩
  | false =>
  subst hsg
  cases href : ref with
  | true =>
    subst href
    obtain ⟨p, rfl⟩ := hr
    clear hp b6 e7 e8 e9
    go_enter Yba.func11, Yba.ntmps11
    go_wp2
    go_region
    all_goals
      go_wp2
      go_ret2
      exact ⟨⟨sInvalid, _, rfl, by unfold closedB; rw [hc]; simp [OrdOk]⟩, ((Below.refl _ _).alloc (Nat.le_refl _) _).drew⟩
  | false =>
  subst href
  have hr' : r = .pointer none := hr
  subst hr'
  clear hr
  have n0 : 0 ≤ now % 1000000000 := by omega
  have n1 : now % 1000000000 < 1000000000 := by omega
  have x0 : 0 ≤ exp % 1000000000 := by omega
  have x1 : exp % 1000000000 < 1000000000 := by omega
  have HC : Hid (cert.toList.isEmpty = true) := hc
  by_cases hx : exp < now
  · have hl : laterB (now % 1000000000) (now / 1000000000) (exp % 1000000000) (exp / 1000000000) = true := by rw [later_floor]; simpa using hx
    have HX : Hid (exp < now) := hx
    clear hp b6 hx
    generalize now % 1000000000 = nx at *
    generalize now / 1000000000 = ny at *
    generalize exp % 1000000000 = ex at *
    generalize exp / 1000000000 = ey at *
    go_enter Yba.func11, Yba.ntmps11
    go_upto_region 7 with fail
    go_cut [32] (fun s wc => s = .bool true ∧ Below w.heap.size w wc)
    case first =>
      go_region_with (go_at_call 16; refine (after_b _ _ _ _ true _ n0 n1 x0 x1 hl).mono ?_; rintro e w' ⟨rfl, rfl⟩)
      all_goals
        go_wp2_with fail
        go_meet
        exact ⟨rfl, ((((Below.refl _ _).alloc (Nat.le_refl _) _).alloc (by simp) _).alloc (by simp; omega) _).drew⟩
    case rest =>
      obtain ⟨rfl, hb⟩ := hcut
      go_wp2
      go_ret2
      exact ⟨⟨sInvalid, _, rfl, by unfold closedB; rw [HC.out]; simp [OrdOk, HX.out]⟩, hb⟩
  · have hl : laterB (now % 1000000000) (now / 1000000000) (exp % 1000000000) (exp / 1000000000) = false := by rw [later_floor]; simpa using hx
    have HX : Hid (now ≤ exp) := by show now ≤ exp; omega
    have HAz : Hid (∀ (a : Nat) (z : Az) (w : World), AuthzAt w a o z → z.2.length ≤ 1024 → w.cell? ⟨o, 7, none⟩ = some (.int .u64 (exp % 1000000000)) → w.cell? ⟨o, 8, none⟩ = some (.int .i64 (exp / 1000000000)) →
        w.cell? ⟨o, 9, none⟩ = some (.pointer none) → Calls Yba.prog 17 #[.pointer (some ⟨a, 0, none⟩), .agg #[.int .u64 (now % 1000000000), .int .i64 (now / 1000000000), .pointer none]] w fun e w' =>
      (∃ st, e = .returned (.tuple #[.string st, .pointer none]) ∧ StOk st (azBad now z)) ∧ Below w.heap.size w w') := fun a z w ha hz e7 e8 e9 => authz_any a o z now exp w ha hx hz e7 e8 e9
    obtain ⟨x, cap, rfl, hk⟩ := hp
    have HK : Hid (∀ k, k < azs.length → ∃ g, x = some ⟨g, 0, none⟩ ∧ ∃ a, w.cell? ⟨g, k, none⟩ = some (.pointer (some ⟨a, 0, none⟩)) ∧ AuthzAt w a o (azs.getD k (false, []))) := hk
    have HCh : Hid (∀ k, k < azs.length → (azs.getD k (false, [])).2.length ≤ 1024) := fun k hk => hch _ (by rw [List.getD, List.getElem?_eq_getElem hk]; exact List.getElem_mem hk)
    have HE : Hid (w.cell? ⟨o, 7, none⟩ = some (.int .u64 (exp % 1000000000)) ∧ w.cell? ⟨o, 8, none⟩ = some (.int .i64 (exp / 1000000000)) ∧ w.cell? ⟨o, 9, none⟩ = some (.pointer none)) := ⟨e7, e8, e9⟩
    clear hk hch hx
    generalize now % 1000000000 = nx at *
    generalize now / 1000000000 = ny at *
    generalize exp % 1000000000 = ex at *
    generalize exp / 1000000000 = ey at *
    generalize hL : azs.length = n at *
    have HL : Hid (azs.length = n) := hL
    clear hL
    go_enter Yba.func11, Yba.ntmps11
    go_upto_region 7 with fail
    go_cut [32] (fun s wc => s = .bool false ∧ Below (w.heap.size + 1) (w.alloc (tb nx ny)) wc)
    case first =>
      go_region_with (go_at_call 16; refine (after_b _ _ _ _ false _ n0 n1 x0 x1 hl).mono ?_; rintro e w' ⟨rfl, rfl⟩)
      all_goals
        go_wp2_with fail
        go_meet
        exact ⟨rfl, (((Below.refl _ _).alloc (by simp) _).alloc (by simp) _).drew⟩
    case rest =>
      obtain ⟨rfl, hb⟩ := hcut
      have h6 : wc.cell? ⟨o, 6, none⟩ = some (.slice x n cap) := by
        rw [hb.cell (p := ⟨o, 6, none⟩) (by show o < w.heap.size + 1; omega), World.cell?_of_block (Below.heap_alloc w _ o lo)]; exact b6
      clear b6 b10 b11 b12 e7 e8 e9 hl n0 n1 x0 x1 hc
      go_wp2
      go_loopw [6, 44] (fun s i wr => ∃ k : Nat, k ≤ n ∧ i = .int .i64 k ∧ (s = .string sReady ∨ s = .string sPending) ∧ Below (w.heap.size + 1) (w.alloc (tb nx ny)) wr ∧ ∀ j, j < k → azBad now (azs.getD j (false, [])) = false) (fun _ i _ => n - (intOf i).toNat)
      case atStart => exact ⟨0, by omega, rfl, .inl rfl, hb, by omega⟩
      case round =>
        clear hb h6 wc
        obtain ⟨k, hk, rfl, hs, hb, hall⟩ := hrel
        have HB : Hid (Below (w.heap.size + 1) (w.alloc (tb nx ny)) wr) := hb
        have HAll : Hid (∀ j, j < k → azBad now (azs.getD j (false, [])) = false) := hall
        have hb' : Below w.heap.size w wr := ((Below.refl _ _).alloc (Nat.le_refl _) _).trans (hb.mono (by omega))
        have t0 : wr.cell? ⟨w.heap.size, 0, none⟩ = some (.int .u64 nx) := by rw [hb.cell (p := ⟨w.heap.size, 0, none⟩) (by show w.heap.size < w.heap.size + 1; omega), cell_of_row _ _ _ _ _ _ (heap_alloc_new w (tb nx ny))]; rfl
        have t1 : wr.cell? ⟨w.heap.size, 1, none⟩ = some (.int .i64 ny) := by rw [hb.cell (p := ⟨w.heap.size, 1, none⟩) (by show w.heap.size < w.heap.size + 1; omega), cell_of_row _ _ _ _ _ _ (heap_alloc_new w (tb nx ny))]; rfl
        have t2 : wr.cell? ⟨w.heap.size, 2, none⟩ = some (.pointer none) := by rw [hb.cell (p := ⟨w.heap.size, 2, none⟩) (by show w.heap.size < w.heap.size + 1; omega), cell_of_row _ _ _ _ _ _ (heap_alloc_new w (tb nx ny))]; rfl
        have lw : w.heap.size < wr.heap.size := by have := hb.size; rw [World.size_alloc] at this; omega
        clear hb hall
        by_cases hlt : k < n
        · obtain ⟨g, rfl, a, hc, ha⟩ := HK.out k hlt
          have ha' := (Kept.of hb').authz ha
          have hc' := (Kept.of hb').cell hc
          have lg := block_lt_of_cell hc'
          simp only at lg
          have hE := HE.out
          have f7 := (Kept.of hb').cell hE.1
          have f8 := (Kept.of hb').cell hE.2.1
          have f9 := (Kept.of hb').cell hE.2.2
          have hz := HCh.out k hlt
          clear hc ha hE
          generalize hzz : azs.getD k (false, []) = z at *
          have HZ : Hid (azs.getD k (false, []) = z) := hzz
          clear hzz
          go_wp2_with fail
          refine (HAz.out a z wr ha' hz f7 f8 f9).mono ?_
          rintro e w2 ⟨⟨st, rfl, hst⟩, hb2⟩
          clear ha' hz f7 f8 f9 hc' t0 t1 t2
          have hB2 : Below (w.heap.size + 1) (w.alloc (tb nx ny)) w2 := HB.out.trans (hb2.mono (by omega))
          have HB2 : Hid (Below (w.heap.size + 1) (w.alloc (tb nx ny)) w2) := hB2
          have HB3 : Hid (Below w.heap.size w w2) := hb'.trans (hb2.mono (by omega))
          clear hB2 hb2 hb'
          have HS : Hid (u6 = .string sReady ∨ u6 = .string sPending) := hs
          clear hs
          cases hzb : azBad now z with
          | true =>
            have HZB : Hid (azBad now z = true) := hzb
            rw [hzb] at hst
            clear hzb
            have hst' : st = sDeactivated ∨ st = sExpired ∨ st = sInvalid := hst
            clear hst
            rcases hst' with h | h | h
            · have h' : st = ⟨#[100, 101, 97, 99, 116, 105, 118, 97, 116, 101, 100]⟩ := h
              clear h
              subst h'
              go_wp2
              go_ret2
              exact ⟨⟨sInvalid, _, rfl, by rw [closed_any azs HC.out HX.out, any_true (k := k) (by rw [HL.out]; exact hlt) (by rw [HZ.out]; exact HZB.out)]; exact .inr rfl⟩, HB3.out⟩
            · have h' : st = ⟨#[101, 120, 112, 105, 114, 101, 100]⟩ := h
              clear h
              subst h'
              go_wp2
              go_ret2
              exact ⟨⟨sInvalid, _, rfl, by rw [closed_any azs HC.out HX.out, any_true (k := k) (by rw [HL.out]; exact hlt) (by rw [HZ.out]; exact HZB.out)]; exact .inr rfl⟩, HB3.out⟩
            · have h' : st = ⟨#[105, 110, 118, 97, 108, 105, 100]⟩ := h
              clear h
              subst h'
              go_wp2
              go_ret2
              exact ⟨⟨sInvalid, _, rfl, by rw [closed_any azs HC.out HX.out, any_true (k := k) (by rw [HL.out]; exact hlt) (by rw [HZ.out]; exact HZB.out)]; exact .inr rfl⟩, HB3.out⟩
          | false =>
            have HAll2 : Hid (∀ j, j < k + 1 → azBad now (azs.getD j (false, [])) = false) := fun j hj => by
              by_cases e : j = k
              · rw [e, HZ.out]; exact hzb
              · exact HAll.out j (by omega)
            rw [hzb] at hst
            clear hzb
            have hst' : st = sValid ∨ st = sPending := hst
            clear hst
            rcases hst' with h | h
            · have h' : st = ⟨#[118, 97, 108, 105, 100]⟩ := h
              clear h
              subst h'
              go_wp2
              go_roundw
              case rel => exact ⟨k + 1, by omega, by go_num, HS.out, HB2.out, HAll2.out⟩
              case measure => simp [intOf]; omega
            · have h' : st = ⟨#[112, 101, 110, 100, 105, 110, 103]⟩ := h
              clear h
              subst h'
              go_wp2
              go_roundw
              case rel => exact ⟨k + 1, by omega, by go_num, .inr rfl, HB2.out, HAll2.out⟩
              case measure => simp [intOf]; omega
        · have HF : Hid (azs.any (azBad now) = false) := any_false (fun j hj => HAll.out j (by rw [HL.out] at hj; omega))
          rcases hs with h | h
          · subst h
            go_wp2
            go_ret2
            exact ⟨⟨sReady, _, rfl, by rw [closed_any azs HC.out HX.out, HF.out]; exact .inr (.inl rfl)⟩, hb'⟩
          · subst h
            go_wp2
            go_ret2
            exact ⟨⟨sPending, _, rfl, by rw [closed_any azs HC.out HX.out, HF.out]; exact .inr (.inr rfl)⟩, hb'⟩

/-- (*order).isClosed -/
theorem isClosed_any (o : Nat) (cert : ByteArray) (sg ref : Bool) (exp now : Int) (azs : List Az) (w : World) (ho : OrderAt w o cert sg ref exp azs)
    (hn : azs.length ≤ 1024) (hch : ∀ z ∈ azs, z.2.length ≤ 1024) :
    Calls Yba.prog 7 #[.pointer (some ⟨o, 0, none⟩), .agg #[.int .u64 (now % 1000000000), .int .i64 (now / 1000000000), .pointer none]] w fun e w' =>
      e = .returned (.bool (closedB cert sg ref exp now azs)) ∧ Below w.heap.size w w' := by
  have HO : Hid (∀ w, OrderAt w o cert sg ref exp azs → Calls Yba.prog 11 #[.pointer (some ⟨o, 0, none⟩), .agg #[.int .u64 (now % 1000000000), .int .i64 (now / 1000000000), .pointer none]] w fun e w' =>
      (∃ st p, e = .returned (.tuple #[.string st, p]) ∧ OrdOk st (closedB cert sg ref exp now azs)) ∧ Below w.heap.size w w') := fun w h => order_status o cert sg ref exp now azs w h hn hch
  generalize now % 1000000000 = nx at *
  generalize now / 1000000000 = ny at *
  generalize closedB cert sg ref exp now azs = b at *
  have hb1 : Below w.heap.size w (w.alloc (tb nx ny)) := (Below.refl _ _).alloc (Nat.le_refl _) _
  have HOr : Hid (OrderAt (w.alloc (tb nx ny)) o cert sg ref exp azs) := (Kept.of hb1).order ho
  clear ho hch
  go_enter Yba.func7, Yba.ntmps7
  go_wp2_with fail
  refine (HO.out _ HOr.out).mono ?_
  rintro e w2 ⟨⟨st, p, rfl, hst⟩, hb2⟩
  have HB : Hid (Below w.heap.size w w2) := hb1.trans (hb2.mono (by simp))
  clear hb1 hb2 HO HOr
  cases b with
  | true =>
    have hst' : st = sValid ∨ st = sInvalid := hst
    clear hst
    rcases hst' with h | h
    · have h' : st = ⟨#[118, 97, 108, 105, 100]⟩ := h
      clear h
      subst h'
      go_wp2
      go_ret
      exact ⟨rfl, HB.out⟩
    · have h' : st = ⟨#[105, 110, 118, 97, 108, 105, 100]⟩ := h
      clear h
      subst h'
      go_wp2
      go_ret
      exact ⟨rfl, HB.out⟩
  | false =>
    have hst' : st = sProcessing ∨ st = sReady ∨ st = sPending := hst
    clear hst
    rcases hst' with h | h | h
    · have h' : st = ⟨#[112, 114, 111, 99, 101, 115, 115, 105, 110, 103]⟩ := h
      clear h
      subst h'
      go_wp2
      go_ret
      exact ⟨rfl, HB.out⟩
    · have h' : st = ⟨#[114, 101, 97, 100, 121]⟩ := h
      clear h
      subst h'
      go_wp2
      go_ret
      exact ⟨rfl, HB.out⟩
    · have h' : st = ⟨#[112, 101, 110, 100, 105, 110, 103]⟩ := h
      clear h
      subst h'
      go_wp2
      go_ret
      exact ⟨rfl, HB.out⟩
end Go.Proofs.Ybulktwi
