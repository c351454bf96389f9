/- Closed facts for a walk over fmt's stopped front 'errorf' in this dump (function 6), typed by hand after the pattern of the guide's printed facts; each is proved by the kernel's own evaluation. -/
import Derived.Test.YbulktymFmtRows
import Derived.Stop.CallBack
import Derived.Stop.IfaceNil
import Derived.WalkKit
namespace Go.Proofs.YbulktymFmt
open Go.Extern.Stop Go.Stop Go.Extern Go.RowKit

theorem call6 (args : Array Value) (w : World) : (callFunc 6 args).run Ybaf.prog w = ((FmtStop.errorf #[9, 30] #[24] args).run Ybaf.prog w).andThen fun v w' => .ok (.value v) w' :=
  run_callFunc_extern Ybaf.func6 (by kernel_rfl) (by kernel_rfl) (by kernel_rfl) (by kernel_rfl) args w
theorem guard6 (name : String) (w : World) : (FmtStop.guard name).run Ybaf.prog w = .ok () w := by kernel_rfl
theorem fmt2 (w : World) : (FmtDoors.printed ⟨#[116, 101, 115, 116, 32, 112, 97, 116, 116, 101, 114, 110, 32, 111, 102, 32, 37, 100, 32, 111, 99, 116, 101, 116, 115, 44, 32, 112, 97, 115, 116, 32, 37, 100]⟩ 2).run Ybaf.prog w = .ok [(0, 100, false), (1, 100, false)] w := by kernel_rfl
theorem fmt2p : FmtStop.printed? ⟨#[116, 101, 115, 116, 32, 112, 97, 116, 116, 101, 114, 110, 32, 111, 102, 32, 37, 100, 32, 111, 99, 116, 101, 116, 115, 44, 32, 112, 97, 115, 116, 32, 37, 100]⟩ 2 = some [(0, 100, false), (1, 100, false)] := by kernel_rfl
/-- what type 3, 'int', reads as -/
def shape3 : List UInt8 := [5, 3, 0, 0, 0, 0, 0, 0, 0, 105, 110, 116]
theorem op3 (name : String) (x : Int) (w : World) : (FmtStop.operand name false 100 false (.iface 3 (.int .i64 x))).run Ybaf.prog w = .ok (shape3, Go.Extern.Stop.digits 8 (x % 2 ^ 64).toNat) w := by kernel_rfl
theorem op3w (name : String) (x : Int) (w : World) : (FmtStop.operand name true 100 false (.iface 3 (.int .i64 x))).run Ybaf.prog w = .ok (shape3, Go.Extern.Stop.digits 8 (x % 2 ^ 64).toNat) w := by kernel_rfl
theorem ptr33 (w : World) : (FmtStop.ptrTo "errors.errorString").run Ybaf.prog w = .ok 33 w := by kernel_rfl
theorem elem33 (w : World) : (elemOf 33).run Ybaf.prog w = .ok 35 w := by kernel_rfl

theorem errorf_any (F : Interp) (n : Int) (w : World) (hF : F.answers w.tape) (b : Nat) (hc0 : w.cell? ⟨b, 0, none⟩ = some (.iface 3 (.int .i64 n))) (hc1 : w.cell? ⟨b, 1, none⟩ = some (.iface 3 (.int .i64 15))) :
    Calls Ybaf.prog 5 #[.string ⟨#[116, 101, 115, 116, 32, 112, 97, 116, 116, 101, 114, 110, 32, 111, 102, 32, 37, 100, 32, 111, 99, 116, 101, 116, 115, 44, 32, 112, 97, 115, 116, 32, 37, 100]⟩, .slice (some ⟨b, 0, none⟩) 2 2] w fun e w' =>
      (∃ v, e = .returned (.iface 33 v)) ∧ Below w.heap.size w w' := by
  have hF' := hF
  unfold Interp.answers at hF'
  have l1 := call6
  have l2 := guard6
  have l3 := fmt2
  have l4 := fmt2p
  have l5 := op3
  have l6 := op3w
  have l7 := ptr33
  have l8 := elem33
  go_enter Ybaf.func5, Ybaf.ntmps5
  go_wp2
  go_ret
  exact ⟨⟨_, rfl⟩, ((Below.refl _ _).alloc (Nat.le_refl _) _).drew⟩

/-- AppendTest of a pattern that is too long: nil and an error -/
theorem append_long (F : Interp) (vb : Value) (h : Int) (x : Option Addr) (n c : Nat) (w : World) (hF : F.answers w.tape) (hn : 15 < n) (hm : n ≤ 1024) :
    Calls Ybaf.prog 4 #[vb, .int .u8 h, .slice x n c] w fun e w' => (∃ v, e = .returned (.tuple #[.slice none 0 0, .iface 33 v])) ∧ Below w.heap.size w w' := by
  have hd : decide (15 < (n : Int)) = true := by simp; omega
  have HF : Hid (F.answers w.tape) := hF
  clear hF
  go_enter Ybaf.func4, Ybaf.ntmps4
  go_wp2_with fail
  refine (errorf_any F n _ (by exact HF.out) w.heap.size (by simp) (by simp)).mono ?_
  rintro e w' ⟨⟨v, rfl⟩, hb⟩
  have HB : Hid (Below w.heap.size w w') := ((Below.refl _ _).alloc (Nat.le_refl _) _).trans (hb.mono (by simp))
  clear hb
  go_wp2
  go_ret2
  exact ⟨⟨_, rfl⟩, HB.out⟩
end Go.Proofs.YbulktymFmt
