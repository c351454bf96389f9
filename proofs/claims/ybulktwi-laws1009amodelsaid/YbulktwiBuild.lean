/- The walk of zzs1009abuild. -/
import Derived.Test.YbulktwiBuilt
namespace Go.Proofs.Ybulktwi
open Go.ChangeShapes Go.WideShapes Go.ChangeAt Go.RowKit

theorem status_any (s : Int) (w : World) (s0 : 0 ≤ s) (s1 : s ≤ 255) : Calls Yba.prog 10 #[.int .u8 s] w fun e w' => e = .returned (.string (stStr s)) ∧ w' = w := by
  have h44 : s % 4 = 0 ∨ s % 4 = 1 ∨ s % 4 = 2 ∨ s % 4 = 3 := by omega
  rcases h44 with h4 | h4 | h4 | h4
  · have hs : stStr s = sPending := by unfold stStr; rw [if_pos h4]
    rw [hs]
    clear hs
    go_enter Yba.func10, Yba.ntmps10
    go_wp2
    go_ret
    exact ⟨rfl, rfl⟩
  · have hs : stStr s = sProcessing := by unfold stStr; rw [if_neg (by omega), if_pos h4]
    rw [hs]
    clear hs
    go_enter Yba.func10, Yba.ntmps10
    go_wp2
    go_ret
    exact ⟨rfl, rfl⟩
  · have hs : stStr s = sValid := by unfold stStr; rw [if_neg (by omega), if_neg (by omega), if_pos h4]
    rw [hs]
    clear hs
    go_enter Yba.func10, Yba.ntmps10
    go_wp2
    go_ret
    exact ⟨rfl, rfl⟩
  · have hs : stStr s = sInvalid := by unfold stStr; rw [if_neg (by omega), if_neg (by omega), if_neg (by omega)]
    rw [hs]
    clear hs
    go_enter Yba.func10, Yba.ntmps10
    go_wp2
    go_ret
    exact ⟨rfl, rfl⟩

/-- what zzs1009abuild leaves -/
def BuiltOk (e : Ending) (w' : World) (cert : ByteArray) (sg ref : Bool) (exp : Int) (azs : List Az) : Prop := ∃ o, e = .returned (.pointer (some ⟨o, 0, none⟩)) ∧ OrderAt w' o cert sg ref exp azs

/-- the order before its authorizations -/
def Begun (S O : Nat) (cert : ByteArray) (sg ref : Bool) (exp : Int) (w wc : World) (azs : List Az) : Prop :=
  ∃ r, (if ref then ∃ p, r = .pointer (some p) else r = .pointer none) ∧ OuterInv S O cert sg r exp w wc azs 0 (.slice none 0 0) []

theorem begun_plain {cert : ByteArray} {sg : Bool} {exp : Int} {w w1 : World} {azs : List Az} (hb : Below (w.heap.size + 1) (w.alloc (tb 0 0)) w1) :
    Begun w.heap.size w1.heap.size cert sg false exp w (w1.alloc (.cells (orderBlk cert sg (.pointer none) exp (.slice none 0 0)) 44)) azs := by
  have hs := hb.size
  rw [World.size_alloc] at hs
  have hb0 : Below w.heap.size w w1 := ((Below.refl _ _).alloc (Nat.le_refl _) _).trans (hb.mono (by omega))
  refine ⟨.pointer none, rfl, hb0.alloc (by omega) _, by omega, by simp, ?_, heap_alloc_new _ _, ⟨rfl, .inl ⟨rfl, rfl⟩⟩, by omega⟩
  rw [Below.heap_alloc _ _ _ (by omega), hb.block _ (by omega)]
  exact heap_alloc_new _ _
theorem begun_refused {cert : ByteArray} {sg : Bool} {exp : Int} {w w1 : World} {azs : List Az} (P : Obj) (p : Addr) (hb : Below (w.heap.size + 1) (w.alloc (tb 0 0)) w1) :
    Begun w.heap.size w1.heap.size cert sg true exp w ((w1.alloc (.cells (orderBlk cert sg (.pointer (some p)) exp (.slice none 0 0)) 44)).alloc P) azs := by
  have hs := hb.size
  rw [World.size_alloc] at hs
  have hb0 : Below w.heap.size w w1 := ((Below.refl _ _).alloc (Nat.le_refl _) _).trans (hb.mono (by omega))
  refine ⟨.pointer (some p), ⟨p, rfl⟩, (hb0.alloc (by omega) _).alloc (by simp; omega) _, by omega, by simp; omega, ?_, heap_alloc2_old _ _ _, ⟨rfl, .inl ⟨rfl, rfl⟩⟩, by omega⟩
  rw [Below.heap_alloc _ _ _ (by simp; omega), Below.heap_alloc _ _ _ (by omega), hb.block _ (by omega)]
  exact heap_alloc_new _ _

theorem chal_made {wr q3 : World} {o : Obj} {a : Value} {st : ByteArray} (hb : Below (wr.heap.size + 1 + 1) ((wr.alloc o).alloc (.cells (chalBlk a st 0 0) 66)) q3) :
    q3.heap[wr.heap.size + 1]? = some (.cells (chalBlk a st 0 0) 66) ∧ Below wr.heap.size wr q3 :=
  ⟨by rw [hb.block _ (by omega)]; exact heap_alloc2_new _ _ _, (((Below.refl _ _).alloc (Nat.le_refl _) _).alloc (by simp) _).trans (hb.mono (by omega))⟩
theorem chal_stored {wr q3 : World} {a : Value} {s u : Int} (hk : q3.heap[wr.heap.size + 1]? = some (.cells (chalBlk a (stStr s) 0 0) 66)) (hb : Below wr.heap.size wr q3) :
    ChalAt (((q3.setCell ⟨wr.heap.size + 1, 8, none⟩ (.int .u64 (u % 1000000000))).setCell ⟨wr.heap.size + 1, 9, none⟩ (.int .i64 (u / 1000000000))).setCell ⟨wr.heap.size + 1, 10, none⟩ (.pointer none)) (wr.heap.size + 1) (s, u) ∧
    Below wr.heap.size wr (((q3.setCell ⟨wr.heap.size + 1, 8, none⟩ (.int .u64 (u % 1000000000))).setCell ⟨wr.heap.size + 1, 9, none⟩ (.int .i64 (u / 1000000000))).setCell ⟨wr.heap.size + 1, 10, none⟩ (.pointer none)) := by
  refine ⟨⟨a, heap_setCell_same _ _ _ _ _ _ (heap_setCell_same _ _ _ _ _ _ (heap_setCell_same _ _ _ _ _ _ hk))⟩, ?_⟩
  exact ((hb.setCell (by show wr.heap.size ≤ wr.heap.size + 1; omega) _).setCell (by show wr.heap.size ≤ wr.heap.size + 1; omega) _).setCell (by show wr.heap.size ≤ wr.heap.size + 1; omega) _

theorem own_slice {q : World} {base : Nat} {e : TypeId} {size : Nat} {v : Value} {n : Nat} {xs : List Value} (h : q.ownsRow base e size v (n + 1) xs) : ∃ g cap, v = .slice (some ⟨g, 0, none⟩) (n + 1) cap := by
  obtain ⟨_, h2⟩ := h
  rcases h2 with ⟨_, h2⟩ | ⟨g, cap, cur, hv, _⟩
  · omega
  · exact ⟨g, cap, hv⟩
theorem InnerInv.cell6 {B O : Nat} {d : Bool} {wr q q6 : World} {chs : List (Int × Int)} {j : Nat} {v : Value} {ps : List Value} (h : InnerInv B O d wr q chs j v ps) (hg : q.grownBy q6 v.ownBlock) :
    q6.cell? ⟨B + 1, 4, none⟩ = some v ∧ q6.frozen? ⟨B + 1, 4, none⟩ = false := by
  have k6 : q6.heap[B + 1]? = some (.cells (authzBlk O v d) 54) := (hg.block _ (by have := h.size; omega) (row_ne h.own h.blk (by decide))).trans h.blk
  exact ⟨by rw [cell_of_row _ _ _ _ _ _ k6]; rfl, frozen_of_row _ _ _ _ _ k6⟩
theorem OuterInv.cell6 {S O : Nat} {cert : ByteArray} {sg : Bool} {r : Value} {exp : Int} {w q q6 : World} {azs : List Az} {k : Nat} {va : Value} {pas : List Value} (h : OuterInv S O cert sg r exp w q azs k va pas) (hg : q.grownBy q6 va.ownBlock) :
    q6.cell? ⟨O, 6, none⟩ = some va ∧ q6.frozen? ⟨O, 6, none⟩ = false := by
  have k6 : q6.heap[O]? = some (.cells (orderBlk cert sg r exp va) 44) := (hg.block _ h.lo (row_ne h.own h.blk (by decide))).trans h.blk
  exact ⟨by rw [cell_of_row _ _ _ _ _ _ k6]; rfl, frozen_of_row _ _ _ _ _ k6⟩

theorem info57 : (Yba.prog.info? 57).map (fun i => (i.zero, i.size, i.bytes)) = some (some (.pointer none), 1, 8) := by kernel_rfl
theorem info49 : (Yba.prog.info? 49).map (fun i => (i.zero, i.size, i.bytes)) = some (some (.pointer none), 1, 8) := by kernel_rfl

theorem inner_start (O : Nat) (d : Bool) (wr : World) (chs : List (Int × Int)) (o : Obj) :
    InnerInv wr.heap.size O d wr ((wr.alloc o).alloc (.cells (authzBlk O (.slice none 0 0) d) 54)) chs 0 (.slice none 0 0) [] :=
  ⟨((Below.refl _ _).alloc (Nat.le_refl _) _).alloc (by simp) _, by simp, heap_alloc2_new _ _ _, ⟨rfl, .inl ⟨rfl, rfl⟩⟩, by omega⟩

set_option maxRecDepth 100000 in
set_option maxHeartbeats 2000000 in
theorem build_any (cert : ByteArray) (sg ref : Bool) (exp : Int) (v : Value) (azs : List Az) (w : World) (ha : AzIn w v azs) (hn : azs.length ≤ 1024) (hch : ∀ z ∈ azs, z.2.length ≤ 1024)
    (x0 : -9223372036854775808 ≤ exp) (x1 : exp ≤ 9223372036854775807) :
    Calls Yba.prog 6 #[.string cert, .bool sg, .bool ref, .int .i64 exp, v] w fun e w' => BuiltOk e w' cert sg ref exp azs ∧ Below w.heap.size w w' := by
  obtain ⟨x, cap, rfl, hl, hk⟩ := ha
  have HK : Hid (∀ k, k < azs.length → ∃ b off, x = some ⟨b, off, none⟩ ∧ w.cell? ⟨b, off + k * 2, none⟩ = some (.bool (azs.getD k (false, [])).1) ∧ ∃ vc, w.cell? ⟨b, off + k * 2 + 1, none⟩ = some vc ∧ ChalsIn w vc (azs.getD k (false, [])).2) := hk
  have HCh : Hid (∀ k, k < azs.length → (azs.getD k (false, [])).2.length ≤ 1024) := fun k hk => hch _ (by rw [List.getD, List.getElem?_eq_getElem hk]; exact List.getElem_mem hk)
  clear hk hch
  generalize hL : azs.length = n at *
  have HL : Hid (azs.length = n) := hL
  clear hL
  go_enter Yba.func6, Yba.ntmps6
  go_wp2_with fail
  refine (add_any exp _ x0 x1).mono ?_
  rintro e w1 ⟨rfl, hb1⟩
  rw [World.size_alloc] at hb1
  go_upto_if 26 with fail
  go_cut [10] (fun s wc => s = .pointer none ∧ Begun w.heap.size w1.heap.size cert sg ref exp w wc azs)
  case first =>
    cases ref with
    | true =>
      go_wp2_with fail
      go_meet
      exact ⟨rfl, begun_refused _ _ hb1⟩
    | false =>
      go_wp2_with fail
      go_meet
      exact ⟨rfl, begun_plain hb1⟩
  case rest =>
    obtain ⟨rfl, r, hr, hO⟩ := hcut
    have HR : Hid (if ref then ∃ p, r = .pointer (some p) else r = .pointer none) := hr
    clear hr
    have hS : w.heap.size < w1.heap.size := hO.so
    generalize w1.heap.size = O at *
    clear hb1 w1
    go_wp2_with fail
    obtain ⟨i57, hi57, hz57, hs57, hb57⟩ := info_parts info57
    obtain ⟨i49, hi49, hz49, hs49, hb49⟩ := info_parts info49
    have I57 : Hid (Yba.prog.info? 57 = some i57 ∧ i57.zero = some (.pointer none) ∧ i57.size = 1 ∧ i57.bytes = 8) := ⟨hi57, hz57, hs57, hb57⟩
    have I49 : Hid (Yba.prog.info? 49 = some i49 ∧ i49.zero = some (.pointer none) ∧ i49.size = 1 ∧ i49.bytes = 8) := ⟨hi49, hz49, hs49, hb49⟩
    clear hi57 hz57 hs57 hb57 hi49 hz49 hs49 hb49
    go_loopw [34] (fun i wr => ∃ (k : Nat) (va : Value) (pas : List Value), k ≤ n ∧ i = .int .i64 k ∧ OuterInv w.heap.size O cert sg r exp w wr azs k va pas) (fun i _ => n - (intOf i).toNat)
    case atStart => exact ⟨0, .slice none 0 0, [], by omega, rfl, hO⟩
    case round =>
      clear hO wc
      rename World => wo
      obtain ⟨k, va, pas, hk, rfl, hO⟩ := hrel
      have HO : Hid (OuterInv w.heap.size O cert sg r exp w wo azs k va pas) := hO
      clear hO
      by_cases hlt : k < n
      · obtain ⟨b, off, rfl, c1, vc, c2, y, cc, rfl, hcl, hcs⟩ := HK.out k hlt
        have hkept := Kept.of HO.out.bel
        have c1' := hkept.cell c1
        have c2' := hkept.cell c2
        have lb := block_lt_of_cell c1'
        simp only at lb
        have hm := HCh.out k hlt
        have hOr : O < wo.heap.size := HO.out.lo
        clear c1 c2 hkept
        generalize hzz : azs.getD k (false, []) = z at *
        have HZ : Hid (azs.getD k (false, []) = z) := hzz
        clear hzz
        obtain ⟨d, chs⟩ := z
        simp only at c1' c2' hcl hm hcs
        have HCs : Hid (∀ k, k < chs.length → Fits (chs.getD k (0, 0)) ∧ ∃ b off, y = some ⟨b, off, none⟩ ∧ w.cell? ⟨b, off + k * 2, none⟩ = some (.int .u8 (chs.getD k (0, 0)).1) ∧ w.cell? ⟨b, off + k * 2 + 1, none⟩ = some (.int .i64 (chs.getD k (0, 0)).2)) := hcs
        clear hcs
        generalize hM : chs.length = m at *
        have HM : Hid (chs.length = m) := hM
        clear hM
        go_wp2_with fail
        clear c1' c2' lb
        go_loopw [46] (fun i wq => ∃ (j : Nat) (v : Value) (ps : List Value), j ≤ m ∧ i = .int .i64 j ∧ InnerInv wo.heap.size O d wo wq chs j v ps) (fun i _ => m - (intOf i).toNat)
        case atStart => exact ⟨0, .slice none 0 0, [], by omega, rfl, inner_start O d wo chs _⟩
        case round =>
          obtain ⟨j, v, ps, hj, rfl, hI⟩ := hrel
          have HI : Hid (InnerInv wo.heap.size O d wo wr chs j v ps) := hI
          have hsz : wo.heap.size + 2 ≤ wr.heap.size := hI.size
          have hv4 : wr.cell? ⟨wo.heap.size + 1, 4, none⟩ = some v := by rw [cell_of_row _ _ _ _ _ _ hI.blk]; rfl
          have ht0 : wr.heap[w.heap.size]? = some (tb 0 0) := by rw [hI.bel.block _ (by omega)]; exact HO.out.t0
          have t0 : wr.cell? ⟨w.heap.size, 0, none⟩ = some (.int .u64 0) := by rw [cell_of_row _ _ _ _ _ _ ht0]; rfl
          have t1 : wr.cell? ⟨w.heap.size, 1, none⟩ = some (.int .i64 0) := by rw [cell_of_row _ _ _ _ _ _ ht0]; rfl
          have t2 : wr.cell? ⟨w.heap.size, 2, none⟩ = some (.pointer none) := by rw [cell_of_row _ _ _ _ _ _ ht0]; rfl
          clear ht0
          have lS : w.heap.size < wr.heap.size := by omega
          have lA : wo.heap.size + 1 < wr.heap.size := by omega
          by_cases hjm : j < m
          · obtain ⟨hfit, b2, off2, rfl, c1, c2⟩ := HCs.out j hjm
            have hkw : Below w.heap.size w wr := HO.out.bel.trans (hI.bel.mono (by omega))
            have c1' := (Kept.of hkw).cell c1
            have c2' := (Kept.of hkw).cell c2
            have lb2 := block_lt_of_cell c1'
            simp only at lb2
            clear c1 c2 hkw hI
            generalize hpp : chs.getD j (0, 0) = p at *
            have HP : Hid (chs.getD j (0, 0) = p) := hpp
            clear hpp
            obtain ⟨s, u⟩ := p
            simp only at c1' c2'
            obtain ⟨⟨s0, s1⟩, u0, u1⟩ := hfit
            simp only at s0 s1 u0 u1
            go_wp2_with (go_at_call 10; refine (status_any _ _ s0 s1).mono ?_; rintro e w' ⟨rfl, hw⟩; rw [hw])
            refine (add_any u _ u0 u1).mono ?_
            rintro e q3 ⟨rfl, hb3⟩
            rw [World.size_alloc, World.size_alloc] at hb3
            obtain ⟨kC, hbq⟩ := chal_made hb3
            have d8 : q3.cell? ⟨wr.heap.size + 1, 8, none⟩ = some (.int .u64 0) := by rw [cell_of_row _ _ _ _ _ _ kC]; rfl
            have d9 : q3.cell? ⟨wr.heap.size + 1, 9, none⟩ = some (.int .i64 0) := by rw [cell_of_row _ _ _ _ _ _ kC]; rfl
            have d10 : q3.cell? ⟨wr.heap.size + 1, 10, none⟩ = some (.pointer none) := by rw [cell_of_row _ _ _ _ _ _ kC]; rfl
            have df : ∀ o, q3.frozen? ⟨wr.heap.size + 1, o, none⟩ = false := fun o => frozen_of_row _ _ _ _ _ kC
            clear hb3 c1' c2' t0 t1 t2
            go_upto_region 14 with fail
            obtain ⟨hCh, hbQ⟩ := chal_stored (s := s) (u := u) kC hbq
            have hIQ := HI.out.kept hbQ
            clear d8 d9 d10 df kC hbq hv4
            generalize ((q3.setCell ⟨wr.heap.size + 1, 8, none⟩ (Value.int .u64 (u % 1000000000))).setCell ⟨wr.heap.size + 1, 9, none⟩ (Value.int .i64 (u / 1000000000))).setCell ⟨wr.heap.size + 1, 10, none⟩ (Value.pointer none) = q4 at *
            clear q3
            have hv4 : q4.cell? ⟨wo.heap.size + 1, 4, none⟩ = some v := by rw [cell_of_row _ _ _ _ _ _ hIQ.blk]; rfl
            have l4 : wo.heap.size + 1 < q4.heap.size := by have := hIQ.size; omega
            have h5 : Below q4.heap.size q4 (q4.alloc (.cells #[.pointer (some ⟨wr.heap.size + 1, 0, none⟩)] 57)) := (Below.refl _ _).alloc (Nat.le_refl _) _
            have H5 : Hid (InnerInv wo.heap.size O d wo (q4.alloc (.cells #[.pointer (some ⟨wr.heap.size + 1, 0, none⟩)] 57)) chs j v ps) := hIQ.kept h5
            have HC5 : Hid (ChalAt (q4.alloc (.cells #[.pointer (some ⟨wr.heap.size + 1, 0, none⟩)] 57)) (wr.heap.size + 1) (chs.getD j (0, 0))) := by rw [HP.out]; exact (Kept.of h5).chal hCh
            clear hCh hbQ hIQ h5
            go_wp2_with (at_builtin; refine wpList_append_own _ rfl _ _ 52 rfl (wo.heap.size + 2) 57 i57 (.pointer none) 1 8 Yba.underlying52 I57.out.1 I57.out.2.1 I57.out.2.2.1 I57.out.2.2.2 rfl (by decide) v j ps rfl H5.out.own ⟨q4.heap.size, 0, none⟩ 1 1 [.pointer (some ⟨wr.heap.size + 1, 0, none⟩)] rfl rfl (cell_one_new _ _ _) (fun x hx => by simp at hx; subst hx; rfl) (by unfold maxLen; omega) (by omega) (by simp; omega) ?_; intro v' q6 hown' hg' _; have f6 := (H5.out.cell6 hg').1; have g6 := (H5.out.cell6 hg').2; obtain ⟨g', cp', hv'⟩ := own_slice hown'; rw [hv'] at hown' ⊢)
            go_roundw
            case rel => exact ⟨j + 1, .slice (some ⟨g', 0, none⟩) (j + 1) cp', ps ++ [.pointer (some ⟨wr.heap.size + 1, 0, none⟩)], by omega, by go_num, H5.out.step HC5.out hown' hg'⟩
            case measure => simp [intOf]; omega
          · have hO6 := HO.out.kept hI.bel
            have hA : AuthzT wr (wo.heap.size + 1) O (d, chs) := (show InnerInv wo.heap.size O d wo wr chs chs.length v ps by rw [HM.out, show m = j by omega]; exact HI.out).authz
            have hv6 : wr.cell? ⟨O, 6, none⟩ = some va := by rw [cell_of_row _ _ _ _ _ _ hO6.blk]; rfl
            have lO : O < wr.heap.size := hO6.lo
            have h5 : Below wr.heap.size wr (wr.alloc (.cells #[.pointer (some ⟨wo.heap.size + 1, 0, none⟩)] 49)) := (Below.refl _ _).alloc (Nat.le_refl _) _
            have H5 : Hid (OuterInv w.heap.size O cert sg r exp w (wr.alloc (.cells #[.pointer (some ⟨wo.heap.size + 1, 0, none⟩)] 49)) azs k va pas) := hO6.kept h5
            have HA5 : Hid (AuthzT (wr.alloc (.cells #[.pointer (some ⟨wo.heap.size + 1, 0, none⟩)] 49)) (wo.heap.size + 1) O (azs.getD k (false, []))) := by rw [HZ.out]; exact (Kept.of h5).keepT.authz hA
            clear hO6 hA h5 hI HI t0 t1 t2 hv4
            go_wp2_with (at_builtin; refine wpList_append_own _ rfl _ _ 40 rfl (O + 1) 49 i49 (.pointer none) 1 8 Yba.underlying40 I49.out.1 I49.out.2.1 I49.out.2.2.1 I49.out.2.2.2 rfl (by decide) va k pas rfl H5.out.own ⟨wr.heap.size, 0, none⟩ 1 1 [.pointer (some ⟨wo.heap.size + 1, 0, none⟩)] rfl rfl (cell_one_new _ _ _) (fun x hx => by simp at hx; subst hx; rfl) (by unfold maxLen; omega) (by omega) (by simp; omega) ?_; intro v' q6 hown' hg' _; have f6 := (H5.out.cell6 hg').1; have g6 := (H5.out.cell6 hg').2; obtain ⟨g', cp', hv'⟩ := own_slice hown'; rw [hv'] at hown' ⊢)
            go_roundw
            case rel => exact ⟨k + 1, .slice (some ⟨g', 0, none⟩) (k + 1) cp', pas ++ [.pointer (some ⟨wo.heap.size + 1, 0, none⟩)], by omega, by go_num, H5.out.step HA5.out hown' hg'⟩
            case measure => simp [intOf]; omega
      · go_wp2
        go_ret
        exact ⟨⟨O, rfl, (show OuterInv w.heap.size O cert sg r exp w wo azs azs.length va pas by rw [HL.out, show n = k by omega]; exact HO.out).order HR.out⟩, HO.out.bel⟩
end Go.Proofs.Ybulktwi
