/-
  numalign: recordsMatchB1: the walk.
-/
import Derived.Test.Qxb6613881aFmtMatch
namespace Go.Proofs.Qxb6613881aFmt
open Go.RowKit
set_option linter.unusedVariables false

theorem base_cast (k sl : Nat) : (k : Int) * ((sl : Int) + 1) = ((k * (sl + 1) : Nat) : Int) := by push_cast; rfl
theorem base_small {k N sl : Nat} (hk : k ≤ N) (hN : N * (sl + 1) ≤ 4194304) : k * (sl + 1) ≤ 4194304 := Nat.le_trans (Nat.mul_le_mul_right _ hk) hN
theorem wrap_nat {q : Nat} (h : q ≤ 1000000000) : wrap64 (q : Int) = (q : Int) := by unfold wrap64; omega
theorem nat_add_cast (q b : Nat) : (q : Int) + (b : Int) = ((q + b : Nat) : Int) := rfl
theorem rec_byte {ns ids : List Int} {sl q b : Nat} {pr : Bool} {rs bs : List UInt8} {y : UInt8} (h : ∀ b, b < sl + 1 → rs[q + b]? = (recOf ns sl ids pr)[b]?) (hbs : bitsOf ns (List.replicate sl 0) ids = bs) (hl : bs.length = sl) (hb : b < sl) (hy : bs[b]? = some y) : rs[q + b]? = some y := by
  rw [h b (by omega)]
  unfold recOf
  rw [hbs, List.getElem?_append_left (by omega)]
  exact hy
theorem rec_flag {ns ids : List Int} {sl q : Nat} {pr : Bool} {rs bs : List UInt8} (h : ∀ b, b < sl + 1 → rs[q + b]? = (recOf ns sl ids pr)[b]?) (hbs : bitsOf ns (List.replicate sl 0) ids = bs) (hl : bs.length = sl) : rs[q + sl]? = some (if pr then 1 else 0) := by
  rw [h sl (by omega)]
  unfold recOf
  rw [hbs, List.getElem?_append_right (by omega), hl]
  simp
theorem str_flag {ns ids : List Int} {sl q : Nat} {pr : Bool} {rs bs : List UInt8} {s : ByteArray} (hs : s = ⟨rs.toArray⟩) (h : ∀ b, b < sl + 1 → rs[q + b]? = (recOf ns sl ids pr)[b]?) (hbs : bitsOf ns (List.replicate sl 0) ids = bs) (hl : bs.length = sl) (w : World) :
    (Instr.index 9 (.string s) (.int .i64 ((q : Int) + (sl : Int)))).run Tryf.prog w = .ok (.int .u8 (if pr then 1 else 0)) w := by
  rw [str_at (z := (q : Int) + (sl : Int)) hs (rec_flag h hbs hl) (nat_add_cast q sl) w]
  cases pr <;> rfl
theorem sl_small {n sl : Nat} (h : (n + 7) / 8 = sl) (hn : n ≤ 65536) : sl ≤ 8192 + 1 := by omega
theorem q_small {k sl q : Nat} (h : k * (sl + 1) = q) (hq : k * (sl + 1) ≤ 4194304) : q ≤ 4194304 := by omega
theorem sum_small {sl b u v y : Nat} (hsl : sl ≤ 8192 + 1) (hb : b ≤ sl) (h : u ≤ 8 * b) (hv : v ≤ 8) : u ≤ 100000 ∧ v ≤ 8 := by omega

/-- How many nodes the first j ids name. -/
def dist (ns : List Int) (sl : Nat) (ids : List Int) (j : Nat) : Nat := pcSum (bitsOf ns (List.replicate sl 0) (ids.take j))
theorem dist_zero (ns : List Int) (sl : Nat) (ids : List Int) : dist ns sl ids 0 = 0 := by
  unfold dist
  rw [List.take_zero, show bitsOf ns (List.replicate sl 0) [] = List.replicate sl 0 from rfl, pcSum_zero]
theorem take_snoc {ids : List Int} {j : Nat} {x : Int} (hj : j < ids.length) (hx : ids[j]?.getD 0 = x) : ids.take (j + 1) = ids.take j ++ [x] := by
  rw [List.take_succ_eq_append_getElem hj]
  rw [List.getElem?_eq_getElem hj] at hx
  rw [← hx]; rfl
theorem dist_succ {ns : List Int} {n sl : Nat} {ids : List Int} {j : Nat} {x : Int} (hn : ns.length = n) (hsl : (n + 7) / 8 = sl) (hk : known ns ids = true) (hj : j < ids.length) (hx : ids[j]?.getD 0 = x) :
    dist ns sl ids (j + 1) = dist ns sl ids j + (if hits ns (ids.take j) (ns.idxOf x) then 0 else 1) := by
  have hm := mem_of_known hk
  unfold dist
  rw [take_snoc hj hx]
  refine pcSum_snoc ns sl _ x (fun y hy => (idx_small hn hsl (hm y (List.mem_of_mem_take hy))).2) (idx_small hn hsl (hm x ?_)).2
  rw [List.getElem?_eq_getElem hj] at hx
  rw [← hx]
  exact List.getElem_mem hj
theorem pcSum_le (bs : List UInt8) : pcSum bs ≤ 8 * bs.length := by
  have := sumTo_le bs bs.length
  unfold sumTo at this
  rwa [List.take_length] at this
theorem dist_le {ns : List Int} {n sl : Nat} (ids : List Int) (j : Nat) (hsl : sl ≤ 8192 + 1) : dist ns sl ids j ≤ 100000 := by
  have := pcSum_le (bitsOf ns (List.replicate sl 0) (ids.take j))
  rw [bitsOf_length, List.length_replicate] at this
  unfold dist
  omega
theorem dist_full {ns : List Int} {sl m : Nat} {ids : List Int} {bs : List UInt8} (hbs : bitsOf ns (List.replicate sl 0) ids = bs) (hl : bs.length = sl) (hm : ids.length = m) : dist ns sl ids m = sumTo bs sl := by
  unfold dist sumTo
  rw [← hm, List.take_length, hbs, ← hl, List.take_length]
theorem id_at {ns ids : List Int} {j : Nat} {x : Int} (hk : known ns ids = true) (hj : j < ids.length) (hx : ids[j]?.getD 0 = x) : x ∈ ns := by
  rw [List.getElem?_eq_getElem hj] at hx
  rw [← hx]
  exact mem_of_known hk _ (List.getElem_mem hj)
theorem zero_add' (j : Nat) : 0 + j = j := Nat.zero_add j
theorem bne_nat (u : Nat) : ((u : Int) != (u : Int)) = false := by simp

theorem ok_ne {ns : List Int} {hl : List (List Int)} {k : Nat} (h : okAll ns hl = true) (hk : k < hl.length) : hl[k]?.getD [] ≠ [] := by
  unfold okAll at h
  have := List.all_eq_true.1 h hl[k] (List.getElem_mem hk)
  rw [List.getElem?_eq_getElem hk]
  simp at this
  exact this.1
theorem id_cell {w wr : World} {B ib io j m : Nat} {ids : List Int} {x : Int} (h : ∀ j v, (ids.map (Value.int .i64))[j]? = some v → w.cell? ⟨ib, io + j, .none⟩ = some v) (hb : Below B w wr) (hib : ib < B) (hm : ids.length = m) (hj : j < m) (hx : ids[j]?.getD 0 = x) : wr.cell? ⟨ib, io + j, .none⟩ = some (.int .i64 x) := by
  rw [hb.cell (p := ⟨ib, io + j, .none⟩) hib]
  refine h j _ ?_
  rw [List.getElem?_map, List.getElem?_eq_getElem (by omega)]
  rw [List.getElem?_eq_getElem (by omega)] at hx
  rw [← hx]; rfl
theorem pos_in {w wr : World} {B g n : Nat} (c : Nat) {ns : List Int} {x : Int} (hN : Nodes ns n) (hg : ∀ j, j < n → w.cell? ⟨g, j, .none⟩ = some (.int .i64 (ns[j]?.getD 0))) (hgl : g < B) (hb : Below B w wr) (hx : x ∈ ns) :
    Calls Tryf.prog 22 #[.slice (some ⟨g, 0, .none⟩) n c, .int .i64 x] wr fun e w' => e = .returned (.int .i64 (ns.idxOf x : Int)) ∧ wr = w' := by
  rw [← posOf_mem hx]
  exact positionOf_any g 0 n c ns x wr hN.len hN.up (by have := hN.small; omega) (fun j hj => by rw [Nat.zero_add, hb.cell (p := ⟨g, j, .none⟩) hgl]; exact hg j hj)

set_option maxHeartbeats 1000000 in
set_option maxRecDepth 100000 in
theorem match_any (B N hcap P pcap g n c sl : Nat) (ha pa : Option Addr) (hl : List (List Int)) (ps : List Bool) (ns : List Int) (rs : List UInt8) (s : ByteArray) (w : World) (hN : Nodes ns n) (hsl : (n + 7) / 8 = sl) (hNl : N ≤ 131072) (hprod : N * (sl + 1) ≤ 4194304)
    (hs : s = ⟨rs.toArray⟩) (hrs : rs = recsOf ns sl (withPref hl ps)) (hok : okAll ns hl = true) (hB : B ≤ w.heap.size) (hrow : Rows B w ha N hl) (hP : ps.length = P) (hp : Rd B w pa (ps.map Value.bool))
    (hgl : g < w.heap.size) (hg : ∀ j, j < n → w.cell? ⟨g, j, .none⟩ = some (.int .i64 (ns[j]?.getD 0))) (hsz : s.size = N * (sl + 1)) :
    Calls Tryf.prog 21 #[.string s, .slice ha N hcap, .slice pa P pcap, .slice (some ⟨g, 0, .none⟩) n c] w fun e w' => e = .returned (.bool true) ∧ Below w.heap.size w w' := by
  obtain ⟨i0, hi, hz0, hz1, hz2⟩ := info_parts info4
  have hn4 := hN.small
  have hby : i0.bytes * n ≤ 281474976710656 := by rw [hz2]; omega
  have hml : n ≤ maxLen := by unfold maxLen; omega
  have hsli : ((n : Int) + 7) / 8 = (sl : Int) := by omega
  have rA := base_cast N sl
  have pA := wrap_nat (q := N * (sl + 1)) (by omega)
  rw [← hsz] at rA pA
  have hq : ((s.size : Int) != (s.size : Int)) = false := by simp
  have hsl2 := sl_small hsl hn4
  have HN := hide hN
  have HSL := hide hsl
  have HPROD := hide hprod
  have HSTR := hide hs
  have HRS := hide hrs
  have HOK := hide hok
  have HR := hide hrow
  have HP := hide hP
  have HPP := hide hp
  have HG := hide hg
  have HSZ := hide hsz
  have HBW := hide hB
  have HGL := hide hgl
  clear hN hsl hprod hs hrs hok hrow hP hp hg hsz hB hgl
  go_enter Tryf.func21, Tryf.ntmps21
  go_wp2_with (first
    | (at_make; go_must (refine wpList_make_full _ rfl _ _ 24 rfl w.heap.size 4 i0 (.bool false) 1 Tryf.underlying24 hi hz0 hz1 .i64 .i64 _ _ n rfl rfl rfl rfl hby hml (Nat.le_refl _) ?_); intro w2 hrow2 hg2; have hfull := vb_made hrow2; have hb2 : Below w.heap.size w w2 := (Below.refl _ w).grown hg2 (Nat.le_refl _) (fun j hj => by cases hj))
    | fail)
  clear hrow2 hg2 hby hml rA pA hq hsli hi hz0 hz1 hz2
  go_loopw [11] (fun i wr => ∃ k : Nat, k ≤ N ∧ i = .int .i64 k ∧ wr.heap[w.heap.size]? = some (.cells (vb (List.replicate n false)).toArray 4 (0, 0)) ∧ Below w.heap.size w wr) (fun i _ => N - (intOf i).toNat)
  case atStart => exact ⟨0, Nat.zero_le _, rfl, hfull, hb2⟩
  case round =>
    obtain ⟨k, hk, rfl, hX, hbk⟩ := hrel
    clear hfull hb2
    by_cases hlt : k < N
    · have hlti : (k : Int) < N := Int.ofNat_lt.2 hlt
      obtain ⟨q, hq2⟩ : ∃ q, k * (sl + 1) = q := ⟨_, rfl⟩
      have rB := base_cast k sl
      rw [hq2] at rB
      have pB := wrap_nat (q := q) (by rw [← hq2]; exact Nat.le_trans (base_small hk HPROD.out) (by decide))
      have HQ := hide hq2
      clear hq2
      have hkl : k < hl.length := by rw [HR.out.1]; exact hlt
      have hkn := ok_at HOK.out hkl
      obtain ⟨ids, hids⟩ : ∃ ids, hl[k]?.getD [] = ids := ⟨_, rfl⟩
      obtain ⟨pr, hpr⟩ : ∃ pr, ps[k]?.getD false = pr := ⟨_, rfl⟩
      have hrec : ∀ b, b < sl + 1 → rs[q + b]? = (recOf ns sl ids pr)[b]? := by
        intro b hb
        have := recsOf_at ns sl (withPref hl ps) k b (by rw [withPref_length]; exact hkl) hb
        rw [withPref_get hl ps hkl, hids, hpr, HQ.out, ← HRS.out] at this
        exact this
      obtain ⟨bs, hbs⟩ : ∃ bs, bitsOf ns (List.replicate sl 0) ids = bs := ⟨_, rfl⟩
      have hbl : bs.length = sl := by rw [← hbs, bitsOf_length, List.length_replicate]
      rw [hids] at hkn
      have HREC := hide hrec
      have HBL := hide hbl
      have HBS := hide hbs
      have HIDS := hide hids
      have HPR := hide hpr
      have HKN := hide hkn
      have HX := hide hX
      have HBK := hide hbk
      clear hrec hbl hbs hids hpr hkn hX hbk
      have hqs := q_small HQ.out (base_small hk HPROD.out)
      go_wp2_with fail
      go_loopw [13, 14] (fun t i wq => ∃ b : Nat, b ≤ sl ∧ i = .int .i64 b ∧ t = .int .i64 (sumTo bs b : Int) ∧ wq = wr) (fun t i _ => sl - (intOf i).toNat)
      case atStart => exact ⟨0, Nat.zero_le _, rfl, rfl, rfl⟩
      case round =>
        obtain ⟨b, hb, rfl, rfl, rfl⟩ := hrel
        by_cases hlt2 : b < sl
        · have hbi : (b : Int) < sl := Int.ofNat_lt.2 hlt2
          obtain ⟨y, hy⟩ : ∃ y, bs[b]? = some y := ⟨_, List.getElem?_eq_getElem (by rw [HBL.out]; exact hlt2)⟩
          have hix := str_at (z := (q : Int) + (b : Int)) HSTR.out (rec_byte HREC.out HBS.out HBL.out hlt2 hy) (nat_add_cast q b)
          have hsum := sumTo_succ bs b y hy
          have hle := (sum_small (y := 0) hsl2 hb (sumTo_le bs b) (pc_le y)).1
          have hpl := pc_le y
          have HSUM := hide hsum
          have hpop := pop_any y wr
          clear hsum hy
          generalize sumTo bs b = u at HSUM hle ⊢
          generalize pc y = v at HSUM hpl hpop
          go_wp2_with (first | (go_at_call 26; refine hpop.mono ?_; rintro e w' ⟨rfl, rfl⟩) | fail)
          go_roundw
          case rel => exact ⟨b + 1, hlt2, by go_num, by rw [HSUM.out]; go_num, by trivial⟩
          case measure => simp [intOf]; omega
        · have hbe : sl = b := Nat.le_antisymm (Nat.le_of_not_lt hlt2) hb
          subst hbe
          clear hlt2 hb
          have hne := ok_ne HOK.out hkl
          rw [HIDS.out] at hne
          obtain ⟨hbb, hoff, a, m, c', rfl, hbB, hcell, hci, hm, hm2, _⟩ := HR.out.at hlt
          rw [HIDS.out] at hci hm
          rcases hci with h0 | ⟨ib, io, rfl, hib, hci⟩
          · exact absurd (by simpa using h0) hne
          have HCI := hide hci
          have HM := hide hm
          have HHC := hide hcell
          have hbW := Nat.lt_of_lt_of_le hbB HBW.out
          have hiW := Nat.lt_of_lt_of_le hib HBW.out
          clear hci hm hcell hne hbB hib
          have hck : wr.cell? ⟨hbb, hoff + k, .none⟩ = some (.slice (some ⟨ib, io, .none⟩) m c') := (HBK.out.cell (p := ⟨hbb, hoff + k, .none⟩) hbW).trans HHC.out
          have hflag := str_flag HSTR.out HREC.out HBS.out HBL.out
          have hpref := prefAt_any B pa P pcap k ps wr HP.out (HPP.out.below (HBK.out.mono HBW.out))
          rw [HPR.out] at hpref
          have hu : sumTo bs sl ≤ 100000 := (sum_small (y := 0) (v := 0) hsl2 (Nat.le_refl _) (sumTo_le bs sl) (Nat.zero_le _)).1
          have HD := hide (dist_full HBS.out HBL.out HM.out)
          generalize sumTo bs sl = u at hu HD ⊢
          cases pr
          all_goals (
            first | rw [if_pos rfl] at hflag | rw [if_neg (by decide)] at hflag
            go_wp2_with (first | (go_at_call 25; refine hpref.mono ?_; rintro e w' ⟨rfl, rfl⟩) | fail)
            clear hpref hflag hck
            go_loopw [16, 17] (fun t i wq => ∃ j : Nat, j ≤ m ∧ i = .int .i64 j ∧ t = .int .i64 (dist ns sl ids j : Int) ∧ wq.heap[w.heap.size]? = some (.cells (vb (flags ns (ids.take j) n)).toArray 4 (0, 0)) ∧ Below w.heap.size w wq) (fun t i _ => m - (intOf i).toNat)
            case atStart => exact ⟨0, Nat.zero_le _, rfl, by rw [dist_zero]; rfl, by rw [List.take_zero, flags_nil]; exact HX.out, HBK.out⟩
            case round =>
              obtain ⟨j, hj, rfl, rfl, hXj, hbj⟩ := hrel
              have HXJ := hide hXj
              have HBJ := hide hbj
              clear hXj hbj HX HBK
              have hck : wr.cell? ⟨hbb, hoff + k, .none⟩ = some (.slice (some ⟨ib, io, .none⟩) m c') := (HBJ.out.cell (p := ⟨hbb, hoff + k, .none⟩) hbW).trans HHC.out
              by_cases hltj : j < m
              · have hji : (j : Int) < m := Int.ofNat_lt.2 hltj
                have hjl : j < ids.length := by rw [HM.out]; exact hltj
                obtain ⟨x, hx⟩ : ∃ x, ids[j]?.getD 0 = x := ⟨_, rfl⟩
                have hcj := id_cell HCI.out HBJ.out hiW HM.out hltj hx
                have hxn := id_at HKN.out hjl hx
                have hpos := pos_in c HN.out HG.out HGL.out HBJ.out hxn
                have hps := (idx_small HN.out.len HSL.out hxn).1
                have hds := dist_succ HN.out.len HSL.out HKN.out hjl hx
                have hdl := dist_le (ns := ns) (n := n) ids j hsl2
                have htk := take_snoc hjl hx
                obtain ⟨p, hp⟩ : ∃ p, ns.idxOf x = p := ⟨_, rfl⟩
                rw [hp] at hpos hps hds
                have hpi : (p : Int) < n := Int.ofNat_lt.2 hps
                cases hh : hits ns (ids.take j) p with
                | true =>
                  rw [hh, if_pos rfl, Nat.add_zero] at hds
                  have hcp := vb_cell HXJ.out (j := p) (y := true) (by rw [flags_get ns _ n p hps, hh])
                  have hfl : flags ns (ids.take (j + 1)) n = flags ns (ids.take j) n := by rw [htk]; exact flags_same ns _ n x (by rw [hp]; exact hh)
                  have HDS := hide hds
                  have HFL := hide hfl
                  clear hds hfl htk hh hp hx hxn
                  generalize dist ns sl ids j = d at HDS hdl ⊢
                  go_wp2_with (first | (go_at_call 22; refine hpos.mono ?_; rintro e w1 ⟨rfl, rfl⟩) | fail)
                  go_roundw
                  case rel => exact ⟨j + 1, hltj, by go_num, by rw [HDS.out]; rfl, by rw [HFL.out]; exact HXJ.out, HBJ.out⟩
                  case measure => simp [intOf]; omega
                | false =>
                  rw [hh, if_neg (by decide)] at hds
                  have hcp := vb_cell HXJ.out (j := p) (y := false) (by rw [flags_get ns _ n p hps, hh])
                  have hfz : wr.frozen? ⟨w.heap.size, p, .none⟩ = false := frozen_of_row _ _ _ _ _ HXJ.out
                  have hfl : (flags ns (ids.take j) n).set p true = flags ns (ids.take (j + 1)) n := by rw [htk, ← hp]; exact flags_set ns _ n x (by rw [hp]; exact hps)
                  have HDS := hide hds
                  have HFL := hide hfl
                  clear hds hfl htk hh hp hx hxn
                  generalize dist ns sl ids j = d at HDS hdl ⊢
                  go_wp2_with (first | (go_at_call 22; refine hpos.mono ?_; rintro e w1 ⟨rfl, rfl⟩) | fail)
                  go_roundw
                  case rel => exact ⟨j + 1, hltj, by go_num, by rw [HDS.out]; go_num, vb_set HXJ.out HFL.out, HBJ.out.setCell (p := ⟨w.heap.size, p, .none⟩) (Nat.le_refl _) _⟩
                  case measure => simp [intOf]; omega
              · have hje : m = j := Nat.le_antisymm (Nat.le_of_not_lt hltj) hj
                subst hje
                rw [HD.out]
                have hX0 := HXJ.out
                rw [← HM.out, List.take_length, ← clr_zero] at hX0
                have HX0 := hide hX0
                clear hX0 HXJ hltj hj
                go_wp2_with fail
                clear hck
                go_loopw [19] (fun i wq => ∃ j : Nat, j ≤ m ∧ i = .int .i64 j ∧ wq.heap[w.heap.size]? = some (.cells (vb (clr ns ids j n)).toArray 4 (0, 0)) ∧ Below w.heap.size w wq) (fun i _ => m - (intOf i).toNat)
                case atStart => exact ⟨0, Nat.zero_le _, rfl, HX0.out, HBJ.out⟩
                case round =>
                  obtain ⟨j, hj, rfl, hXj, hbj⟩ := hrel
                  have HXC := hide hXj
                  have HBC := hide hbj
                  clear hXj hbj HX0 HBJ
                  have hck : wr.cell? ⟨hbb, hoff + k, .none⟩ = some (.slice (some ⟨ib, io, .none⟩) m c') := (HBC.out.cell (p := ⟨hbb, hoff + k, .none⟩) hbW).trans HHC.out
                  by_cases hltj : j < m
                  · have hji : (j : Int) < m := Int.ofNat_lt.2 hltj
                    have hjl : j < ids.length := by rw [HM.out]; exact hltj
                    obtain ⟨x, hx⟩ : ∃ x, ids[j]?.getD 0 = x := ⟨_, rfl⟩
                    have hcj := id_cell HCI.out HBC.out hiW HM.out hltj hx
                    have hxn := id_at HKN.out hjl hx
                    have hpos := pos_in c HN.out HG.out HGL.out HBC.out hxn
                    have hps := (idx_small HN.out.len HSL.out hxn).1
                    have hcl := clr_set ns ids j n hjl (by rw [hx]; exact hps)
                    rw [hx] at hcl
                    obtain ⟨p, hp⟩ : ∃ p, ns.idxOf x = p := ⟨_, rfl⟩
                    rw [hp] at hpos hps hcl
                    have hpi : (p : Int) < n := Int.ofNat_lt.2 hps
                    obtain ⟨y, hcp⟩ : ∃ y, wr.cell? ⟨w.heap.size, p, .none⟩ = some (.bool y) := ⟨_, vb_cell HXC.out (List.getElem?_eq_getElem (by rw [clr_length]; exact hps))⟩
                    have hfz : wr.frozen? ⟨w.heap.size, p, .none⟩ = false := frozen_of_row _ _ _ _ _ HXC.out
                    have HCL := hide hcl
                    clear hcl hp hx hxn
                    go_wp2_with (first | (go_at_call 22; refine hpos.mono ?_; rintro e w1 ⟨rfl, rfl⟩) | fail)
                    go_roundw
                    case rel => exact ⟨j + 1, hltj, by go_num, vb_set HXC.out HCL.out, HBC.out.setCell (p := ⟨w.heap.size, p, .none⟩) (Nat.le_refl _) _⟩
                    case measure => simp [intOf]; omega
                  · have hje : m = j := Nat.le_antisymm (Nat.le_of_not_lt hltj) hj
                    subst hje
                    have hXe := HXC.out
                    rw [← HM.out, clr_full] at hXe
                    have HXE := hide hXe
                    have hqu := bne_nat u
                    clear hXe HXC hltj hj
                    go_wp2_with fail
                    go_roundw
                    case rel => exact ⟨k + 1, hlt, by go_num, HXE.out, HBC.out⟩
                    case measure => simp [intOf]; omega)
    · go_wp2_with fail
      go_ret
      exact ⟨rfl, hbk⟩
end Go.Proofs.Qxb6613881aFmt
