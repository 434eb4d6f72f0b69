/-
  numalign: setBit.
-/
import Derived.Test.Qxb6613881aFmtParts
import Derived.Laws.IdiomStrings
import Derived.Laws.BitsAllLaws
import Derived.BigRegion
namespace Go.Proofs.Qxb6613881aFmt
open Go.RowKit
set_option linter.unusedVariables false

/-- A byte's cell. -/
def e8 (b : UInt8) : Value := .int .u8 (b.toNat : Int)
/-- b[len(b)-1-p/8] |= 1 << (p % 8) -/
def setBitU (bs : List UInt8) (p : Nat) : List UInt8 := bs.set (bs.length - 1 - p / 8) (bs.getD (bs.length - 1 - p / 8) 0 ||| UInt8.ofNat (2 ^ (p % 8)))
theorem setBitU_length (bs : List UInt8) (p : Nat) : (setBitU bs p).length = bs.length := by simp [setBitU]

theorem or_bit (b : UInt8) (r : Nat) (hr : r < 8) : bits .or .u8 (b.toNat : Int) ((2 : Int) ^ r % 256) = ((b ||| UInt8.ofNat (2 ^ r)).toNat : Int) := by
  have h2 : (2 : Int) ^ r % 256 = ((2 ^ r : Nat) : Int) := by
    have : r = 0 ∨ r = 1 ∨ r = 2 ∨ r = 3 ∨ r = 4 ∨ r = 5 ∨ r = 6 ∨ r = 7 := by omega
    rcases this with rfl | rfl | rfl | rfl | rfl | rfl | rfl | rfl <;> rfl
  have hl : 2 ^ r < 256 := by
    have : r = 0 ∨ r = 1 ∨ r = 2 ∨ r = 3 ∨ r = 4 ∨ r = 5 ∨ r = 6 ∨ r = 7 := by omega
    rcases this with rfl | rfl | rfl | rfl | rfl | rfl | rfl | rfl <;> decide
  rw [h2, u8_or_nat _ _ (UInt8.toNat_lt b) hl]
  simp [UInt8.toNat_or, Nat.mod_eq_of_lt hl]

theorem set_mid {α : Type} (a b c : List α) (i : Nat) (x : α) (hi : i < b.length) : (a ++ b ++ c).set (a.length + i) x = a ++ b.set i x ++ c := by
  rw [List.append_assoc, List.set_append_right (h := by omega), List.append_assoc, List.set_append_left (h := by omega)]
  congr 2
  congr 1
  omega
theorem get_mid {α : Type} (a b c : List α) (i : Nat) (hi : i < b.length) : (a ++ b ++ c)[a.length + i]? = b[i]? := by
  rw [List.append_assoc, List.getElem?_append_right (by omega), List.getElem?_append_left (by omega)]
  congr 1
  omega

theorem setBit_raw (g off n cap i q r : Nat) (p x : Int) (w : World) (hi : i < n) (hp : p.tdiv 8 = q) (hr : p.tmod 8 = r) (hr8 : r < 8)
   (hc : w.cell? ⟨g, off + i, .none⟩ = some (.int .u8 x)) (hf : w.frozen? ⟨g, off + i, .none⟩ = false) (hw : wrap64 (wrap64 ((n:Int) - 1) - wrap64 (q:Int)) = (i:Int)) :
    Calls Tryf.prog 66 #[.slice (some ⟨g, off, .none⟩) n cap, .int .i64 p] w fun e w' => e = .returned (.tuple #[]) ∧ (w.setCell ⟨g, off + i, .none⟩ (.int .u8 (bits .or .u8 x (2 ^ r % 256)))).drew = w' := by
  go_enter Tryf.func66, Tryf.ntmps66
  go_wp2_with fail
  go_region
  go_end0
  exact ⟨rfl, rfl⟩

/-- setBit(b, p), b a part of a block. -/
theorem setBit_any (g off n cap p : Nat) (pre post : List Value) (bs : List UInt8) (w : World) (hg : w.heap[g]? = some (.cells (pre ++ bs.map e8 ++ post).toArray 5 (0, 0)))
    (hoff : pre.length = off) (hn : bs.length = n) (hp : p < 8 * n) (hs : n ≤ 1000000) :
    Calls Tryf.prog 66 #[.slice (some ⟨g, off, .none⟩) n cap, .int .i64 (p : Int)] w fun e w' => e = .returned (.tuple #[]) ∧
      w'.heap[g]? = some (.cells (pre ++ (setBitU bs p).map e8 ++ post).toArray 5 (0, 0)) ∧ w.grownBy w' (some g) := by
  subst hoff
  have hi : bs.length - 1 - p / 8 < bs.length := by omega
  have hx : bs[bs.length - 1 - p / 8]? = some (bs.getD (bs.length - 1 - p / 8) 0) := by
    rw [List.getD_eq_getElem?_getD, List.getElem?_eq_getElem hi]; rfl
  have hc : w.cell? ⟨g, pre.length + (bs.length - 1 - p / 8), .none⟩ = some (e8 (bs.getD (bs.length - 1 - p / 8) 0)) := by
    rw [cell_of_row _ _ _ _ 5 (0, 0) hg]
    simp only [List.getElem?_toArray]
    rw [get_mid _ _ _ _ (by simpa using hi), List.getElem?_map, hx]
    rfl
  have hf : w.frozen? ⟨g, pre.length + (bs.length - 1 - p / 8), .none⟩ = false := by
    simp [World.frozen?, hg]
  refine (setBit_raw g pre.length n cap (bs.length - 1 - p / 8) (p / 8) (p % 8) p _ w (by omega) rfl rfl (by omega) hc hf (by unfold wrap64; omega)).mono ?_
  rintro e w' ⟨rfl, rfl⟩
  refine ⟨rfl, ?_, ⟨rfl, rfl, rfl, by simp, fun k hk hne => heap_setCell_other w _ k _ (fun e => hne (by simp [e]))⟩⟩
  have := heap_setCell_same w g (pre.length + (bs.length - 1 - p / 8)) _ 5 (.int .u8 (bits .or .u8 ((bs.getD (bs.length - 1 - p / 8) 0).toNat : Int) (2 ^ (p % 8) % 256))) hg
  refine Eq.trans this ?_
  rw [or_bit _ _ (by omega)]
  congr 2
  apply Array.ext'
  simp only [Array.toList_setIfInBounds]
  rw [set_mid _ _ _ _ _ (by simpa using hi)]
  congr 2
  simp [setBitU, List.map_set, e8]
end Go.Proofs.Qxb6613881aFmt
