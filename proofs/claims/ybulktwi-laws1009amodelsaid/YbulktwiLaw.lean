/- The walk of LawS1009AModel over the contracts. -/
import Derived.Test.YbulktwiBuild
namespace Go.Proofs.Ybulktwi
open Go.ChangeShapes Go.WideShapes Go.ChangeAt Go.RowKit

set_option maxRecDepth 100000 in
set_option maxHeartbeats 1000000 in
theorem law_walk (cert : ByteArray) (sg ref : Bool) (exp now : Int) (v : Value) (azs : List Az) (w : World) (ha : AzIn w v azs)
    (x0 : -9223372036854775808 ≤ exp) (x1 : exp ≤ 9223372036854775807) (n0 : -9223372036854775808 ≤ now) (n1 : now ≤ 9223372036854775807) :
    Calls Yba.prog 3 #[.string cert, .bool sg, .bool ref, .int .i64 exp, v, .int .i64 now] w fun e w' => e = .returned (.bool true) ∧ Below w.heap.size w w' := by
  have HA : Hid (AzIn w v azs) := ha
  clear ha
  go_enter Yba.func3, Yba.ntmps3
  go_wp2_with fail
  refine (toobig_any v azs _ HA.out).mono ?_
  rintro e w1 ⟨⟨b, rfl, hbig⟩, hb1⟩
  cases b with
  | true =>
    clear hbig
    go_wp2
    go_ret
    exact ⟨rfl, hb1⟩
  | false =>
    obtain ⟨hn, hch⟩ := hbig rfl
    have HN : Hid (azs.length ≤ 1024 ∧ ∀ z ∈ azs, z.2.length ≤ 1024) := ⟨hn, hch⟩
    have HA1 : Hid (AzIn w1 v azs) := (Kept.of hb1).azIn HA.out
    have HB1 : Hid (Below w.heap.size w w1) := hb1
    clear hbig hn hch hb1
    go_wp2_with fail
    refine (build_any cert sg ref exp v azs _ HA1.out HN.out.1 HN.out.2 x0 x1).mono ?_
    rintro e w2 ⟨⟨o, rfl, ho⟩, hb2⟩
    have HA2 : Hid (AzIn w2 v azs) := (Kept.of hb2).azIn HA1.out
    have HO : Hid (OrderAt w2 o cert sg ref exp azs) := ho
    have HB2 : Hid (Below w.heap.size w w2) := HB1.out.trans (hb2.mono HB1.out.size)
    clear hb2 ho
    go_wp2_with fail
    refine (add_any now _ n0 n1).mono ?_
    rintro e w3 ⟨rfl, hb3⟩
    have hb23 : Below w2.heap.size w2 w3 := ((Below.refl _ _).alloc (Nat.le_refl _) _).trans (hb3.mono (by simp))
    have HA3 : Hid (AzIn w3 v azs) := (Kept.of hb23).azIn HA2.out
    have HO3 : Hid (OrderAt w3 o cert sg ref exp azs) := (Kept.of hb23).order HO.out
    have HB3 : Hid (Below w.heap.size w w3) := HB2.out.trans (hb23.mono HB2.out.size)
    clear hb23 hb3
    go_wp2_with fail
    refine (isClosed_any o cert sg ref exp now azs _ HO3.out HN.out.1 HN.out.2).mono ?_
    rintro e w4 ⟨rfl, hb4⟩
    have HA4 : Hid (AzIn w4 v azs) := (Kept.of hb4).azIn HA3.out
    have HB4 : Hid (Below w.heap.size w w4) := HB3.out.trans (hb4.mono HB3.out.size)
    clear hb4
    go_wp2_with fail
    refine (model_any cert sg ref exp now v azs _ HA4.out HN.out.1 HN.out.2).mono ?_
    rintro e w5 ⟨rfl, hb5⟩
    have HB5 : Hid (Below w.heap.size w w5) := HB4.out.trans (hb5.mono HB4.out.size)
    clear hb5
    generalize closedB cert sg ref exp now azs = c
    have hcc : (c == c) = true := by simp
    go_wp2
    go_ret
    exact ⟨rfl, HB5.out⟩
end Go.Proofs.Ybulktwi
