/-
  numalign: addTo.
-/
import Derived.Test.Qxb6613881aFmtAdd
namespace Go.Proofs.Qxb6613881aFmt
open Go.RowKit
set_option linter.unusedVariables false

/-- Every id is a node. -/
def known (ns ids : List Int) : Bool := ids.all fun id => ns.contains id
/-- The bytes with the ids' bits set. -/
def bitsOf (ns : List Int) (bs : List UInt8) (ids : List Int) : List UInt8 := ids.foldl (fun b id => setBitU b (ns.idxOf id)) bs
theorem bitsOf_length (ns : List Int) : ∀ (ids : List Int) (bs : List UInt8), (bitsOf ns bs ids).length = bs.length
  | [], _ => rfl
  | id :: r, bs => by
    have := bitsOf_length ns r (setBitU bs (ns.idxOf id))
    rw [setBitU_length] at this
    exact this
theorem bitsOf_take (ns bs' : List Int) (bs : List UInt8) {k : Nat} (hk : k < bs'.length) : bitsOf ns bs (bs'.take (k + 1)) = setBitU (bitsOf ns bs (bs'.take k)) (ns.idxOf (bs'[k]?.getD 0)) := by
  unfold bitsOf
  rw [List.take_succ_eq_append_getElem hk, List.foldl_append, List.getElem?_eq_getElem hk]
  rfl
theorem posOf_mem {ns : List Int} {id : Int} (h : id ∈ ns) : posOf ns id = (ns.idxOf id : Int) := by
  unfold posOf; rw [if_pos h]
theorem known_take {ns ids : List Int} {k : Nat} (hk : k < ids.length) (h : known ns (ids.take k) = true) (hm : ids[k]?.getD 0 ∈ ns) : known ns (ids.take (k + 1)) = true := by
  unfold known at *
  rw [List.take_succ_eq_append_getElem hk, List.all_append, h]
  rw [List.getElem?_eq_getElem hk] at hm
  simpa using hm
theorem known_not {ns ids : List Int} {k : Nat} (hk : k < ids.length) (hm : ids[k]?.getD 0 ∉ ns) : known ns ids = false := by
  unfold known
  rw [List.all_eq_false]
  refine ⟨ids[k], List.getElem_mem hk, ?_⟩
  rw [List.getElem?_eq_getElem hk] at hm
  simpa using hm
theorem grown_below {w wr w' : World} {G : Nat} (h : w.grownBy wr (some G)) (hb : Below wr.heap.size wr w') : w.grownBy w' (some G) :=
  ⟨hb.os.trans h.os, hb.tape.trans h.tape, hb.output.trans h.output, Nat.le_trans h.size hb.size, fun k hk hne => (hb.block k (Nat.lt_of_lt_of_le hk h.size)).trans (h.block k hk hne)⟩
theorem grown_trans {w wr w' : World} {r : Option Nat} (h : w.grownBy wr r) (hb : wr.grownBy w' r) : w.grownBy w' r :=
  ⟨hb.os.trans h.os, hb.tape.trans h.tape, hb.output.trans h.output, Nat.le_trans h.size hb.size, fun k hk hne => (hb.block k (Nat.lt_of_lt_of_le hk h.size) hne).trans (h.block k hk hne)⟩
theorem grown_drewN {w wr : World} {r : Option Nat} (h : w.grownBy wr r) (q : Nat) : w.grownBy (wr.drewN q) r := ⟨h.os, h.tape, h.output, h.size, h.block⟩

set_option maxHeartbeats 1000000 in
/-- addTo(b, ids). -/
theorem addTo_any (H g T S n c G off sl cap ib io m cc : Nat) (ns ids : List Int) (bs : List UInt8) (pre post : List Value) (w : World) (hN : Nodes ns n)
    (h0 : w.cell? ⟨H, 0, .none⟩ = some (.slice (some ⟨g, 0, .none⟩) n c)) (h1 : w.cell? ⟨H, 1, .none⟩ = some (.slice (some ⟨T, 0, .none⟩) S S)) (hS : S ≤ 1048576) (hc : ∀ j, j < n → w.cell? ⟨g, j, .none⟩ = some (.int .i64 (ns[j]?.getD 0)))
    (hT : w.heap[T]? = some (.cells (tblAt ns n S).toArray 3 (0, 0))) (hG : w.heap[G]? = some (.cells (pre ++ bs.map e8 ++ post).toArray 5 (0, 0))) (hHG : H ≠ G) (hgG : g ≠ G) (hTG : T ≠ G) (hiG : ib ≠ G)
    (hoff : pre.length = off) (hbs : bs.length = sl) (hsl : n ≤ 8 * sl) (hsl2 : sl ≤ 1000000) (hm : ids.length = m) (hm2 : m ≤ 1048576) (hi : ∀ j, j < m → w.cell? ⟨ib, io + j, .none⟩ = some (.int .i64 (ids[j]?.getD 0))) (hr : ∀ x ∈ ids, inI64 x) :
    Calls Tryf.prog 52 #[.pointer (some ⟨H, 0, .none⟩), .slice (some ⟨G, off, .none⟩) sl cap, .slice (some ⟨ib, io, .none⟩) m cc] w fun e w' => w.grownBy w' (some G) ∧
      ((known ns ids = true ∧ e = .returned .nilIface ∧ w'.heap[G]? = some (.cells (pre ++ (bitsOf ns bs ids).map e8 ++ post).toArray 5 (0, 0))) ∨
       (known ns ids = false ∧ (∃ g' s, e = .returned (.iface 73 (.pointer (some ⟨g', 0, .none⟩))) ∧ w'.cell? ⟨g', 0, .none⟩ = some (.string s)) ∧ ∃ bs' : List UInt8, bs'.length = sl ∧ w'.heap[G]? = some (.cells (pre ++ bs'.map e8 ++ post).toArray 5 (0, 0)))) := by
  have HN := hide hN
  have HC := hide hc
  have HI := hide hi
  have HR := hide hr
  have HL := hide hm
  clear hN hc hi hr hm
  go_enter Tryf.func52, Tryf.ntmps52
  go_wp2_with fail
  go_loopw [12] (fun i wr => ∃ k : Nat, k ≤ m ∧ i = .int .i64 k ∧ known ns (ids.take k) = true ∧ wr.heap[G]? = some (.cells (pre ++ (bitsOf ns bs (ids.take k)).map e8 ++ post).toArray 5 (0, 0)) ∧ w.grownBy wr (some G)) (fun i _ => m - (intOf i).toNat)
  case atStart => exact ⟨0, Nat.zero_le _, rfl, by simp [known], hG, ⟨rfl, rfl, rfl, Nat.le_refl _, fun _ _ _ => rfl⟩⟩
  case round =>
    obtain ⟨k, hk, rfl, hkn, hGk, hgk⟩ := hrel
    have KN := hide hkn
    clear hkn
    by_cases hlt : k < m
    · have hlti : (k : Int) < m := Int.ofNat_lt.2 hlt
      have hkl : k < ids.length := by rw [HL.out]; exact hlt
      have h0k := hgk.cell h0 (fun e => hHG (Option.some.inj e))
      have h1k := hgk.cell h1 (fun e => hHG (Option.some.inj e))
      have hck : ∀ j, j < n → wr.cell? ⟨g, j, .none⟩ = some (.int .i64 (ns[j]?.getD 0)) := fun j hj => hgk.cell (HC.out j hj) (fun e => hgG (Option.some.inj e))
      have hTk : wr.heap[T]? = some (.cells (tblAt ns n S).toArray 3 (0, 0)) := (hgk.block T (heap_lt hT) (fun e => hTG (Option.some.inj e))).trans hT
      have hik : wr.cell? ⟨ib, io + k, .none⟩ = some (.int .i64 (ids[k]?.getD 0)) := hgk.cell (HI.out k hlt) (fun e => hiG (Option.some.inj e))
      have hmem : ids[k]?.getD 0 ∈ ids := by rw [List.getElem?_eq_getElem hkl]; exact List.getElem_mem hkl
      have hP := position_any H g T S n c (ids[k]?.getD 0) ns wr HN.out h0k h1k hS hck hTk (HR.out _ hmem)
      obtain ⟨x, hx⟩ : ∃ x, ids[k]?.getD 0 = x := ⟨_, rfl⟩
      rw [hx] at hik hP
      have HX := hide hx
      clear hx hmem
      by_cases hxn : x ∈ ns
      · rw [posOf_mem hxn] at hP
        have hpn : ns.idxOf x < n := by rw [← HN.out.len]; exact List.idxOf_lt_length_of_mem hxn
        obtain ⟨p, hp⟩ : ∃ p, ns.idxOf x = p := ⟨_, rfl⟩
        rw [hp] at hP hpn
        have HP := hide hp
        have hB := fun q => setBit_any G off sl cap p pre post (bitsOf ns bs (ids.take k)) (wr.drewN q) hGk hoff (by rw [bitsOf_length]; exact hbs) (by omega) hsl2
        clear hp hck
        go_wp2_with (first
          | (go_at_call 53; refine hP.mono ?_; rintro e w1 ⟨rfl, q, rfl⟩; clear hP)
          | (go_at_call 66; refine (hB q).mono ?_; rintro e w2 ⟨rfl, hG2, hg2⟩)
          | fail)
        go_roundw
        case rel => exact ⟨k + 1, by omega, by go_num, known_take hkl KN.out (by rw [HX.out]; exact hxn), by rw [bitsOf_take _ _ _ hkl, HX.out, HP.out]; exact hG2, grown_trans (grown_drewN hgk q) hg2⟩
        case measure => simp [intOf]; omega
      · have hpx : posOf ns x = -1 := by unfold posOf; rw [if_neg hxn]
        rw [hpx] at hP
        have hU := fun q => unknown_any g 0 n c (.slice (some ⟨T, 0, .none⟩) S S) x ns (wr.drewN q) HN.out.len (Nat.lt_of_lt_of_le (cell_lt' (hck 0 HN.out.pos)) (Nat.le_refl _)) (fun j v hj => by
          have hj' : j < n := by have := (List.getElem?_eq_some_iff.1 hj).1; rw [List.length_map, HN.out.len] at this; exact this
          rw [Nat.zero_add]
          refine (hck j hj').trans ?_
          rw [← hj, List.getElem?_map, List.getElem?_eq_getElem (by rw [HN.out.len]; exact hj')]
          rfl)
        clear hck
        go_wp2_with (first
          | (go_at_call 53; refine hP.mono ?_; rintro e w1 ⟨rfl, q, rfl⟩; clear hP)
          | (go_at_call 54; refine (hU q).mono ?_; rintro e w2 ⟨⟨g', s, rfl, hs⟩, hb2⟩)
          | fail)
        go_ret
        exact ⟨grown_below (grown_drewN hgk q) hb2, .inr ⟨known_not hkl (by rw [HX.out]; exact hxn), ⟨g', s, rfl, hs⟩, _, by rw [bitsOf_length]; exact hbs, (hb2.block G (heap_lt hGk)).trans hGk⟩⟩
    · obtain rfl : k = m := Nat.le_antisymm hk (Nat.le_of_not_lt hlt)
      go_wp2_with fail
      go_ret
      have e1 : ids.take k = ids := List.take_of_length_le (by rw [HL.out]; exact Nat.le_refl _)
      have KN' := KN.out
      rw [e1] at hGk KN'
      exact ⟨hgk, .inl ⟨KN', rfl, hGk⟩⟩
end Go.Proofs.Qxb6613881aFmt
