/- What came in; zzs1009atoobig, zzs1009amodel. -/
import Derived.Test.YbulktwiOrder
namespace Go.Proofs.Ybulktwi
open Go.ChangeShapes Go.WideShapes Go.ChangeAt Go.RowKit

/-- a challenge's numbers fit their kinds -/
def Fits (p : Int × Int) : Prop := (0 ≤ p.1 ∧ p.1 ≤ 255) ∧ -9223372036854775808 ≤ p.2 ∧ p.2 ≤ 9223372036854775807
/-- v is a slice of challenges -/
def ChalsIn (w : World) (v : Value) (chs : List (Int × Int)) : Prop :=
  ∃ (x : Option Addr) (cap : Nat), v = .slice x chs.length cap ∧ chs.length ≤ 9223372036854775807 ∧ ∀ k, k < chs.length → Fits (chs.getD k (0, 0)) ∧ ∃ b off, x = some ⟨b, off, none⟩ ∧
    w.cell? ⟨b, off + k * 2, none⟩ = some (.int .u8 (chs.getD k (0, 0)).1) ∧ w.cell? ⟨b, off + k * 2 + 1, none⟩ = some (.int .i64 (chs.getD k (0, 0)).2)
/-- v is a slice of authorizations -/
def AzIn (w : World) (v : Value) (azs : List Az) : Prop :=
  ∃ (x : Option Addr) (cap : Nat), v = .slice x azs.length cap ∧ azs.length ≤ 9223372036854775807 ∧ ∀ k, k < azs.length → ∃ b off, x = some ⟨b, off, none⟩ ∧
    w.cell? ⟨b, off + k * 2, none⟩ = some (.bool (azs.getD k (false, [])).1) ∧ ∃ vc, w.cell? ⟨b, off + k * 2 + 1, none⟩ = some vc ∧ ChalsIn w vc (azs.getD k (false, [])).2

theorem Kept.chalsIn {w w' : World} (h : Kept w w') {v : Value} {chs : List (Int × Int)} (hc : ChalsIn w v chs) : ChalsIn w' v chs := by
  obtain ⟨x, cap, hv, hl, hk⟩ := hc
  refine ⟨x, cap, hv, hl, fun k hkn => ?_⟩
  obtain ⟨hf, b, off, hx, h1, h2⟩ := hk k hkn
  exact ⟨hf, b, off, hx, h.cell h1, h.cell h2⟩
theorem Kept.azIn {w w' : World} (h : Kept w w') {v : Value} {azs : List Az} (ha : AzIn w v azs) : AzIn w' v azs := by
  obtain ⟨x, cap, hv, hl, hk⟩ := ha
  refine ⟨x, cap, hv, hl, fun k hkn => ?_⟩
  obtain ⟨b, off, hx, h1, vc, h2, h3⟩ := hk k hkn
  exact ⟨b, off, hx, h.cell h1, vc, h.cell h2, h.chalsIn h3⟩

theorem getD_of_mem {azs : List Az} {P : Az → Prop} (h : ∀ j, j < azs.length → P (azs.getD j (false, []))) : ∀ z ∈ azs, P z := by
  intro z hz
  obtain ⟨i, hi, rfl⟩ := List.getElem_of_mem hz
  have := h i hi
  rw [List.getD, List.getElem?_eq_getElem hi] at this
  exact this

/-- what zzs1009atoobig says -/
def BigOk (e : Ending) (azs : List Az) : Prop := ∃ b, e = .returned (.bool b) ∧ (b = false → azs.length ≤ 1024 ∧ ∀ z ∈ azs, z.2.length ≤ 1024)

set_option maxHeartbeats 1000000 in
theorem toobig_any (v : Value) (azs : List Az) (w : World) (ha : AzIn w v azs) :
    Calls Yba.prog 5 #[v] w fun e w' => BigOk e azs ∧ Below w.heap.size w w' := by
  obtain ⟨x, cap, rfl, hl, hk⟩ := ha
  have HK : Hid (∀ k, k < azs.length → ∃ b off, x = some ⟨b, off, none⟩ ∧ w.cell? ⟨b, off + k * 2, none⟩ = some (.bool (azs.getD k (false, [])).1) ∧ ∃ vc, w.cell? ⟨b, off + k * 2 + 1, none⟩ = some vc ∧ ChalsIn w vc (azs.getD k (false, [])).2) := hk
  clear hk
  generalize hL : azs.length = n at *
  have HL : Hid (azs.length = n) := hL
  clear hL
  by_cases hbig : 1024 < n
  · have hd : decide (1024 < (n : Int)) = true := by simp; omega
    go_enter Yba.func5, Yba.ntmps5
    go_wp2
    go_ret
    exact ⟨⟨true, rfl, by simp⟩, Below.refl _ _⟩
  · have hd : decide (1024 < (n : Int)) = false := by simp; omega
    go_enter Yba.func5, Yba.ntmps5
    go_wp2
    go_loopw [10] (fun i wr => ∃ k : Nat, k ≤ n ∧ i = .int .i64 k ∧ Below w.heap.size w wr ∧ ∀ j, j < k → (azs.getD j (false, [])).2.length ≤ 1024) (fun i _ => n - (intOf i).toNat)
    case atStart => exact ⟨0, by omega, rfl, Below.refl _ _, by omega⟩
    case round =>
      obtain ⟨k, hk, rfl, hb, hall⟩ := hrel
      have HAll : Hid (∀ j, j < k → (azs.getD j (false, [])).2.length ≤ 1024) := hall
      clear hall
      by_cases hlt : k < n
      · obtain ⟨b, off, rfl, h1, vc, h2, y, cc, rfl, hcl, _⟩ := HK.out k hlt
        have h1' := (Kept.of hb).cell h1
        have h2' := (Kept.of hb).cell h2
        have lb := block_lt_of_cell h1'
        simp only at lb
        clear h1 h2
        generalize hzz : azs.getD k (false, []) = z at *
        have HZ : Hid (azs.getD k (false, []) = z) := hzz
        clear hzz
        obtain ⟨d, chs⟩ := z
        simp only at h1' h2' hcl
        generalize hM : chs.length = m at *
        have HM : Hid (chs.length = m) := hM
        clear hM
        have hb2 := hb.alloc (by have := hb.size; omega) (.cells #[.bool d, .slice y m cc] 37)
        by_cases hm : 1024 < m
        · have hdm : decide (1024 < (m : Int)) = true := by simp; omega
          go_wp2
          go_ret
          exact ⟨⟨true, rfl, by simp⟩, hb2⟩
        · have hdm : decide (1024 < (m : Int)) = false := by simp; omega
          go_wp2
          go_roundw
          case rel => exact ⟨k + 1, by omega, by go_num, hb2, fun j hj => by
            by_cases e : j = k
            · rw [e, HZ.out]; show chs.length ≤ 1024; rw [HM.out]; omega
            · exact HAll.out j (by omega)⟩
          case measure => simp [intOf]; omega
      · go_wp2
        go_ret
        exact ⟨⟨false, rfl, fun _ => ⟨by rw [HL.out]; omega, getD_of_mem (P := fun z => z.2.length ≤ 1024) (fun j hj => HAll.out j (by rw [HL.out] at hj; omega))⟩⟩, hb⟩

set_option maxHeartbeats 2000000 in
theorem model_any (cert : ByteArray) (sg ref : Bool) (exp now : Int) (v : Value) (azs : List Az) (w : World) (ha : AzIn w v azs) (hn : azs.length ≤ 1024) (hch : ∀ z ∈ azs, z.2.length ≤ 1024) :
    Calls Yba.prog 9 #[.string cert, .bool sg, .bool ref, .int .i64 exp, v, .int .i64 now] w fun e w' => e = .returned (.bool (closedB cert sg ref exp now azs)) ∧ Below w.heap.size w w' := by
  by_cases hc' : cert.toList.isEmpty = false
  · go_enter Yba.func9, Yba.ntmps9
    go_wp2
    go_ret
    exact ⟨ret_bool (by unfold closedB; rw [hc']; rfl), Below.refl _ _⟩
  have hc : cert.toList.isEmpty = true := by simpa using hc'
  clear hc'
  cases hsg : sg with
  | true =>
    go_enter Yba.func9, Yba.ntmps9
    go_wp2
    go_ret
    exact ⟨ret_bool (by unfold closedB; rw [hc]; rfl), Below.refl _ _⟩
  | false =>
  cases href : ref with
  | true =>
    go_enter Yba.func9, Yba.ntmps9
    go_wp2
    go_ret
    exact ⟨ret_bool (by unfold closedB; rw [hc]; rfl), Below.refl _ _⟩
  | false =>
  clear hsg href sg ref
  by_cases hx : exp < now
  · have hd : decide (exp < now) = true := by simpa using hx
    go_enter Yba.func9, Yba.ntmps9
    go_wp2
    go_ret
    exact ⟨ret_bool (by unfold closedB; rw [hc]; simp [hx]), Below.refl _ _⟩
  have hd : decide (exp < now) = false := by simpa using hx
  have HC := closed_any (exp := exp) (now := now) azs hc (by omega)
  rw [HC]
  clear HC
  obtain ⟨x, cap, rfl, hl, hk⟩ := ha
  have HK : Hid (∀ k, k < azs.length → ∃ b off, x = some ⟨b, off, none⟩ ∧ w.cell? ⟨b, off + k * 2, none⟩ = some (.bool (azs.getD k (false, [])).1) ∧ ∃ vc, w.cell? ⟨b, off + k * 2 + 1, none⟩ = some vc ∧ ChalsIn w vc (azs.getD k (false, [])).2) := hk
  have HCh : Hid (∀ k, k < azs.length → (azs.getD k (false, [])).2.length ≤ 1024) := fun k hk => hch _ (by rw [List.getD, List.getElem?_eq_getElem hk]; exact List.getElem_mem hk)
  have HT : Hid (∀ k, k < azs.length → azBad now (azs.getD k (false, [])) = true → azs.any (azBad now) = true) := fun k hk h => any_true hk h
  have HF : Hid ((∀ j, j < azs.length → azBad now (azs.getD j (false, [])) = false) → azs.any (azBad now) = false) := fun h => any_false h
  clear hk hch
  generalize azs.any (azBad now) = res at *
  generalize hL : azs.length = n at *
  clear hL
  go_enter Yba.func9, Yba.ntmps9
  go_wp2
  go_loopw [27] (fun i wr => ∃ k : Nat, k ≤ n ∧ i = .int .i64 k ∧ Below w.heap.size w wr ∧ ∀ j, j < k → azBad now (azs.getD j (false, [])) = false) (fun i _ => n - (intOf i).toNat)
  case atStart => exact ⟨0, by omega, rfl, Below.refl _ _, by omega⟩
  case round =>
    obtain ⟨k, hk, rfl, hb, hall⟩ := hrel
    have HAll : Hid (∀ j, j < k → azBad now (azs.getD j (false, [])) = false) := hall
    clear hall
    by_cases hlt : k < n
    · obtain ⟨b, off, rfl, h1, vc, h2, y, cc, rfl, hcl, hcs⟩ := HK.out k hlt
      have hb' := Kept.of hb
      have h1' := hb'.cell h1
      have h2' := hb'.cell h2
      have lb := block_lt_of_cell h1'
      simp only at lb
      have hm := HCh.out k hlt
      have HT' := HT.out k hlt
      clear h1 h2
      generalize hzz : azs.getD k (false, []) = z at *
      have HZ : Hid (azs.getD k (false, []) = z) := hzz
      clear hzz
      obtain ⟨d, chs⟩ := z
      simp only at h1' h2' hcl hm hcs
      have HCs : Hid (∀ k, k < chs.length → Fits (chs.getD k (0, 0)) ∧ ∃ b off, y = some ⟨b, off, none⟩ ∧ w.cell? ⟨b, off + k * 2, none⟩ = some (.int .u8 (chs.getD k (0, 0)).1) ∧ w.cell? ⟨b, off + k * 2 + 1, none⟩ = some (.int .i64 (chs.getD k (0, 0)).2)) := hcs
      clear hcs hb'
      have HD : Hid (∀ j, j < chs.length → chalBad now (chs.drop j) = if (chs.getD j (0, 0)).1 % 4 = 3 then true else if (chs.getD j (0, 0)).1 % 4 = 2 then decide ((chs.getD j (0, 0)).2 ≠ 0 ∧ (chs.getD j (0, 0)).2 ≤ now) else chalBad now (chs.drop (j + 1))) := fun j hj => chalBad_drop now chs j hj
      have HE : Hid (chalBad now (chs.drop chs.length) = false) := by rw [List.drop_length]; rfl
      generalize hM : chs.length = m at *
      clear hM
      cases d with
      | true =>
        have hres : res = true := HT' rfl
        have hb2 := hb.alloc (by have := hb.size; omega) (.cells #[.bool true, .slice y m cc] 37)
        clear HT'
        subst hres
        go_wp2
        go_ret
        exact ⟨rfl, hb2⟩
      | false =>
        have HT2 : Hid (chalBad now chs = true → res = true) := fun h => HT' h
        have hb2 := hb.alloc (by have := hb.size; omega) (.cells #[.bool false, .slice y m cc] 37)
        clear HT'
        go_wp2
        clear h1' h2' lb
        go_loopw [36] (fun i wq => ∃ j : Nat, j ≤ m ∧ i = .int .i64 j ∧ Below w.heap.size w wq ∧ chalBad now chs = chalBad now (chs.drop j)) (fun i _ => m - (intOf i).toNat)
        case atStart => exact ⟨0, by omega, rfl, hb2, rfl⟩
        case round =>
          clear hb hb2
          obtain ⟨j, hj, rfl, hb, hbad⟩ := hrel
          have HBad : Hid (chalBad now chs = chalBad now (chs.drop j)) := hbad
          clear hbad
          have NEXT : Hid (chalBad now chs = false → ∀ i, i < k + 1 → azBad now (azs.getD i (false, [])) = false) := fun h i hi => by
            by_cases e : i = k
            · rw [e, HZ.out]; exact h
            · exact HAll.out i (by omega)
          by_cases hjm : j < m
          · obtain ⟨hfit, b2, off2, rfl, c1, c2⟩ := HCs.out j hjm
            have c1' := (Kept.of hb).cell c1
            have c2' := (Kept.of hb).cell c2
            have lb2 := block_lt_of_cell c1'
            simp only at lb2
            have HDj := HD.out j hjm
            clear c1 c2
            generalize chs.getD j (0, 0) = p at *
            obtain ⟨s, u⟩ := p
            simp only at c1' c2' HDj
            obtain ⟨⟨s0, s1⟩, u0, u1⟩ := hfit
            simp only at s0 s1 u0 u1
            have hb2 := hb.alloc (by have := hb.size; omega) (.cells #[.int .u8 s, .int .i64 u] 56)
            by_cases h3 : s % 4 = 3
            · have hres : res = true := HT2.out (by rw [HBad.out, HDj, if_pos h3])
              have g3 : (s % 4 == 3) = true := by simpa using h3
              clear HDj h3
              subst hres
              go_wp2
              go_ret
              exact ⟨rfl, hb2⟩
            · have g3 : (s % 4 == 3) = false := by simpa using h3
              by_cases h2 : s % 4 = 2
              · have g2 : (s % 4 == 2) = true := by simpa using h2
                rw [if_neg h3, if_pos h2] at HDj
                clear h2 h3
                by_cases hu : u = 0
                · have hu' : (u != 0) = false := by simpa using hu
                  have HN := NEXT.out (by rw [HBad.out, HDj]; simp [hu])
                  have HN' : Hid (∀ i, i < k + 1 → azBad now (azs.getD i (false, [])) = false) := HN
                  clear hu HDj HN
                  go_wp2
                  go_roundw
                  case rel => exact ⟨k + 1, by omega, by go_num, hb2, HN'.out⟩
                  case measure => simp [intOf]; omega
                · have hu' : (u != 0) = true := by simpa using hu
                  by_cases hun : u ≤ now
                  · have hres : res = true := HT2.out (by rw [HBad.out, HDj]; simp [hu, hun])
                    have hd2 : decide (u ≤ now) = true := by simpa using hun
                    clear hu HDj
                    subst hres
                    go_wp2
                    go_ret
                    exact ⟨rfl, hb2⟩
                  · have HN := NEXT.out (by rw [HBad.out, HDj]; simp [hun])
                    have HN' : Hid (∀ i, i < k + 1 → azBad now (azs.getD i (false, [])) = false) := HN
                    have hd2 : decide (u ≤ now) = false := by simpa using hun
                    clear hu HDj HN
                    go_wp2
                    go_roundw
                    case rel => exact ⟨k + 1, by omega, by go_num, hb2, HN'.out⟩
                    case measure => simp [intOf]; omega
              · have g2 : (s % 4 == 2) = false := by simpa using h2
                have HB2 : Hid (chalBad now chs = chalBad now (chs.drop (j + 1))) := by rw [if_neg h3, if_neg h2] at HDj; exact HBad.out.trans HDj
                clear HDj h2 h3
                go_wp2
                go_roundw
                case rel => exact ⟨j + 1, by omega, by go_num, hb2, HB2.out⟩
                case measure => simp [intOf]; omega
          · have hjm' : j = m := by omega
            have HN : Hid (∀ i, i < k + 1 → azBad now (azs.getD i (false, [])) = false) := NEXT.out (by rw [HBad.out, hjm']; exact HE.out)
            clear hjm'
            go_wp2
            go_roundw
            case rel => exact ⟨k + 1, by omega, by go_num, hb, HN.out⟩
            case measure => simp [intOf]; omega
    · have hres : res = false := HF.out (fun j hj => HAll.out j (by omega))
      subst hres
      go_wp2
      go_ret
      exact ⟨rfl, hb⟩
end Go.Proofs.Ybulktwi
