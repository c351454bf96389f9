/- The plain functions of LawS1009AModel and how the built order lies in memory. -/
import Derived.Test.YbulktwiTime3
namespace Go.Proofs.Ybulktwi
open Go.ChangeShapes Go.WideShapes Go.ChangeAt Go.RowKit

/-- one authorization: deactivated; its challenges: (status, until) -/
abbrev Az := Bool × List (Int × Int)

/-- the challenges make the authorization closed -/
def chalBad (now : Int) : List (Int × Int) → Bool
  | [] => false
  | p :: r => if p.1 % 4 = 3 then true else if p.1 % 4 = 2 then decide (p.2 ≠ 0 ∧ p.2 ≤ now) else chalBad now r
/-- the authorization closes its order -/
def azBad (now : Int) (a : Az) : Bool := a.1 || chalBad now a.2
/-- the order is closed -/
def closedB (cert : ByteArray) (sg ref : Bool) (exp now : Int) (azs : List Az) : Bool :=
  if cert.toList.isEmpty then (if sg then false else if ref then true else if exp < now then true else azs.any (azBad now)) else true

def sPending : ByteArray := ⟨#[112, 101, 110, 100, 105, 110, 103]⟩
def sProcessing : ByteArray := ⟨#[112, 114, 111, 99, 101, 115, 115, 105, 110, 103]⟩
def sValid : ByteArray := ⟨#[118, 97, 108, 105, 100]⟩
def sInvalid : ByteArray := ⟨#[105, 110, 118, 97, 108, 105, 100]⟩
def sDeactivated : ByteArray := ⟨#[100, 101, 97, 99, 116, 105, 118, 97, 116, 101, 100]⟩
def sExpired : ByteArray := ⟨#[101, 120, 112, 105, 114, 101, 100]⟩
def sReady : ByteArray := ⟨#[114, 101, 97, 100, 121]⟩
/-- zzs1009astatus -/
def stStr (s : Int) : ByteArray := if s % 4 = 0 then sPending else if s % 4 = 1 then sProcessing else if s % 4 = 2 then sValid else sInvalid

def chalBlk (a : Value) (st : ByteArray) (x y : Int) : Array Value :=
  #[.string ⟨#[]⟩, a, .nilIface, .string ⟨#[]⟩, .string st, .int .u64 0, .int .i64 0, .pointer none, .int .u64 x, .int .i64 y, .pointer none, .string ⟨#[]⟩, .slice none 0 0, .pointer none, .chan none]
def authzBlk (o : Nat) (v : Value) (d : Bool) : Array Value := #[.string ⟨#[]⟩, .pointer (some ⟨o, 0, none⟩), .string ⟨#[]⟩, .string ⟨#[]⟩, v, .bool d]
def orderBlk (cert : ByteArray) (sg : Bool) (ref : Value) (exp : Int) (az : Value) : Array Value :=
  #[.string ⟨#[]⟩, .pointer none, .slice none 0 0, .int .u64 0, .int .i64 0, .pointer none, az, .int .u64 (exp % 1000000000), .int .i64 (exp / 1000000000), .pointer none, .bool sg, .string cert, ref, .pointer none, .pointer none]

/-- block c is the challenge p -/
def ChalAt (w : World) (c : Nat) (p : Int × Int) : Prop := ∃ a, w.heap[c]? = some (.cells (chalBlk a (stStr p.1) (p.2 % 1000000000) (p.2 / 1000000000)) 66)
/-- a row of n pointers, the k-th of them at a block of which R k holds -/
def PtrsAt (w : World) (v : Value) (n : Nat) (R : Nat → Nat → Prop) : Prop :=
  ∃ (x : Option Addr) (cap : Nat), v = .slice x n cap ∧ ∀ k, k < n → ∃ g, x = some ⟨g, 0, none⟩ ∧ ∃ c, w.cell? ⟨g, k, none⟩ = some (.pointer (some ⟨c, 0, none⟩)) ∧ R k c
/-- block a is the authorization z of order o -/
def AuthzAt (w : World) (a o : Nat) (z : Az) : Prop :=
  ∃ v, w.heap[a]? = some (.cells (authzBlk o v z.1) 54) ∧ PtrsAt w v z.2.length (fun k c => ChalAt w c (z.2.getD k (0, 0)))
/-- block o is the order -/
def OrderAt (w : World) (o : Nat) (cert : ByteArray) (sg ref : Bool) (exp : Int) (azs : List Az) : Prop :=
  ∃ v r, w.heap[o]? = some (.cells (orderBlk cert sg r exp v) 44) ∧ (if ref then ∃ p, r = .pointer (some p) else r = .pointer none) ∧ PtrsAt w v azs.length (fun k a => AuthzAt w a o (azs.getD k (false, [])))

theorem lt_of_block {w : World} {k : Nat} {o : Obj} (h : w.heap[k]? = some o) : k < w.heap.size := by
  by_cases hk : k < w.heap.size
  · exact hk
  · rw [Array.getElem?_eq_none (by omega)] at h; cases h

/-- memory that was there and has not turned -/
def Kept (w w' : World) : Prop := ∀ k, k < w.heap.size → w'.heap[k]? = w.heap[k]?
theorem Kept.of {w w' : World} (h : Below w.heap.size w w') : Kept w w' := h.block
theorem Kept.block {w w' : World} (h : Kept w w') {k : Nat} {o : Obj} (hk : w.heap[k]? = some o) : w'.heap[k]? = some o := (h k (lt_of_block hk)).trans hk
theorem Kept.cell {w w' : World} (h : Kept w w') {a : Addr} {v : Value} (hk : w.cell? a = some v) : w'.cell? a = some v :=
  (World.cell?_of_block (w := w) (h a.block (block_lt_of_cell hk))).trans hk
theorem Kept.chal {w w' : World} (h : Kept w w') {c : Nat} {p : Int × Int} (hc : ChalAt w c p) : ChalAt w' c p := by
  obtain ⟨a, ha⟩ := hc
  exact ⟨a, h.block ha⟩
theorem Kept.ptrs {w w' : World} (h : Kept w w') {v : Value} {n : Nat} {R R' : Nat → Nat → Prop} (hR : ∀ k c, R k c → R' k c) (hp : PtrsAt w v n R) : PtrsAt w' v n R' := by
  obtain ⟨x, cap, hv, hk⟩ := hp
  refine ⟨x, cap, hv, fun k hkn => ?_⟩
  obtain ⟨g, hx, c, hc, hr⟩ := hk k hkn
  exact ⟨g, hx, c, h.cell hc, hR _ _ hr⟩
theorem Kept.authz {w w' : World} (h : Kept w w') {a o : Nat} {z : Az} (ha : AuthzAt w a o z) : AuthzAt w' a o z := by
  obtain ⟨v, hv, hp⟩ := ha
  exact ⟨v, h.block hv, h.ptrs (fun _ _ hc => h.chal hc) hp⟩
theorem Kept.order {w w' : World} (h : Kept w w') {o : Nat} {cert : ByteArray} {sg ref : Bool} {exp : Int} {azs : List Az} (ho : OrderAt w o cert sg ref exp azs) : OrderAt w' o cert sg ref exp azs := by
  obtain ⟨v, r, hv, hr, hp⟩ := ho
  exact ⟨v, r, h.block hv, hr, h.ptrs (fun _ _ ha => h.authz ha) hp⟩

/-- what authz.status says, once the order has not expired -/
def StOk (st : ByteArray) (bad : Bool) : Prop := if bad then (st = sDeactivated ∨ st = sExpired ∨ st = sInvalid) else (st = sValid ∨ st = sPending)
end Go.Proofs.Ybulktwi
