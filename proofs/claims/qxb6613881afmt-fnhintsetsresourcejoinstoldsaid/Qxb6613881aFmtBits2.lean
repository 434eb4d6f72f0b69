/-
  numalign: the plain law of the bits: how many bits are set when the ids' bits are set one by one.
-/
import Derived.Test.Qxb6613881aFmtPlain
namespace Go.Proofs.Qxb6613881aFmt
open Go.RowKit
set_option linter.unusedVariables false

/-- How many bits of a byte are set. -/
def pc (b : UInt8) : Nat := (List.range 8).countP fun i => b.toNat.testBit i
def pcSum (bs : List UInt8) : Nat := (bs.map pc).sum
/-- Bit p of a set. -/
def getBit (bs : List UInt8) (p : Nat) : Bool := (bs.getD (bs.length - 1 - p / 8) 0).toNat.testBit (p % 8)

theorem or_test (b : UInt8) (r s : Nat) (hr : r < 8) (hs : s < 8) : (b ||| UInt8.ofNat (2 ^ r)).toNat.testBit s = (b.toNat.testBit s || decide (r = s)) := by
  have hl : 2 ^ r < 256 := by
    have : r = 0 ∨ r = 1 ∨ r = 2 ∨ r = 3 ∨ r = 4 ∨ r = 5 ∨ r = 6 ∨ r = 7 := by omega
    rcases this with rfl | rfl | rfl | rfl | rfl | rfl | rfl | rfl <;> decide
  rw [UInt8.toNat_or, Nat.testBit_or]
  congr 1
  rw [UInt8.toNat_ofNat', Nat.mod_eq_of_lt hl, Nat.testBit_two_pow]
theorem countP_or {p : Nat → Bool} {r : Nat} (hr : r < 8) : (List.range 8).countP (fun i => p i || decide (r = i)) = (List.range 8).countP p + (if p r then 0 else 1) := by
  have : r = 0 ∨ r = 1 ∨ r = 2 ∨ r = 3 ∨ r = 4 ∨ r = 5 ∨ r = 6 ∨ r = 7 := by omega
  have e : List.range 8 = [0, 1, 2, 3, 4, 5, 6, 7] := rfl
  rw [e]
  rcases this with rfl | rfl | rfl | rfl | rfl | rfl | rfl | rfl
  · cases hp : p 0 <;> simp [List.countP_cons, hp] <;> omega
  · cases hp : p 1 <;> simp [List.countP_cons, hp] <;> omega
  · cases hp : p 2 <;> simp [List.countP_cons, hp] <;> omega
  · cases hp : p 3 <;> simp [List.countP_cons, hp] <;> omega
  · cases hp : p 4 <;> simp [List.countP_cons, hp] <;> omega
  · cases hp : p 5 <;> simp [List.countP_cons, hp] <;> omega
  · cases hp : p 6 <;> simp [List.countP_cons, hp] <;> omega
  · cases hp : p 7 <;> simp [List.countP_cons, hp] <;> omega
theorem pc_or (b : UInt8) (r : Nat) (hr : r < 8) : pc (b ||| UInt8.ofNat (2 ^ r)) = pc b + (if b.toNat.testBit r then 0 else 1) := by
  unfold pc
  rw [← countP_or hr]
  apply List.countP_congr
  intro i hi
  rw [or_test b r i hr (by simpa using hi)]
theorem sum_set (bs : List UInt8) (i : Nat) (b : UInt8) (hi : i < bs.length) : pcSum (bs.set i b) + pc (bs.getD i 0) = pcSum bs + pc b := by
  unfold pcSum
  induction bs generalizing i with
  | nil => simp at hi
  | cons x r ih =>
    cases i with
    | zero => simp; omega
    | succ i =>
      have := ih i (by simpa using hi)
      simp at this ⊢
      omega
theorem pcSum_setBit (bs : List UInt8) (p : Nat) (hp : p < 8 * bs.length) : pcSum (setBitU bs p) = pcSum bs + (if getBit bs p then 0 else 1) := by
  have hi : bs.length - 1 - p / 8 < bs.length := by omega
  have h := sum_set bs _ (bs.getD (bs.length - 1 - p / 8) 0 ||| UInt8.ofNat (2 ^ (p % 8))) hi
  rw [pc_or _ _ (by omega)] at h
  unfold setBitU getBit
  omega
theorem getBit_setBit (bs : List UInt8) (p q : Nat) (hp : p < 8 * bs.length) (hq : q < 8 * bs.length) : getBit (setBitU bs p) q = (getBit bs q || decide (p = q)) := by
  unfold getBit
  rw [setBitU_length]
  unfold setBitU
  by_cases e : bs.length - 1 - p / 8 = bs.length - 1 - q / 8
  · rw [e, List.getD_eq_getElem?_getD, List.getElem?_set_self (by omega), Option.getD_some, or_test _ _ _ (by omega) (by omega)]
    congr 1
    have : p / 8 = q / 8 := by omega
    simp only [decide_eq_decide]
    omega
  · rw [List.getD_eq_getElem?_getD, List.getElem?_set_ne e, ← List.getD_eq_getElem?_getD]
    have : p ≠ q := fun h => e (by rw [h])
    simp [this]
theorem getBit_zero (sl p : Nat) : getBit (List.replicate sl 0) p = false := by
  unfold getBit
  rw [List.getD_eq_getElem?_getD, List.getElem?_replicate]
  split <;> simp
theorem pcSum_zero (sl : Nat) : pcSum (List.replicate sl 0) = 0 := by
  unfold pcSum
  have : pc 0 = 0 := by decide
  simp [this]
/-- How many of the positions of l are there, each once. -/
def distinct (ns : List Int) : List Int → Nat
  | [] => 0
  | x :: r => distinct ns r + (if r.any (fun y => decide (ns.idxOf y = ns.idxOf x)) then 0 else 1)
end Go.Proofs.Qxb6613881aFmt
