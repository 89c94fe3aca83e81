/-
  Sim.next where no schedule runs.
-/
import Derived.Test.YbulkaryoFmtSim
namespace Go.Proofs.YbulkaryoFmt
open Go.RowKit

set_option maxRecDepth 100000 in
set_option maxHeartbeats 2000000 in
theorem next_drain {K : Nat → Prop} {w : World} {B n m : Nat} {A : Nat → Nat} {d : Nat → Arr} {S : Nat} {cs : Array Value} {hs : Nat → List Nat} {ix : Nat → Nat} {F0 F1 : Nat} {LB : Nat} {RB : Nat → Nat} {lc : Array Value} {rc : Nat → Array Value} {lv : Nat → Nat → Value} {ls : Nat → Nat → List Nat} {now : Nat} {rem : Nat → Bool} (M : Sim K w B n m A d S cs hs ix F0 F1 true LB RB lc rc lv ls now rem)
    (c136 : cs[136]? = some (.slice none 0 0)) (c137 : cs[137]? = some (.int .i64 0)) (hge : ∀ y, y < m → rem y = true → now ≤ (d y).at_) {z : Nat} (hzm : z < m) (hz : rem z = true) :
    Calls Ybaf.prog 6 #[.pointer (some ⟨S, 0, none⟩)] w fun en w' => ∃ x, en = .returned (.pointer (some ⟨A x, 0, none⟩)) ∧ (x < m ∧ rem x = true ∧ ∀ y, y < m → rem y = true → key d x ≤ key d y) ∧ Gone K w B n m A d S cs true LB RB lc (d x).at_ rem x w' := by
  have hm := M.small.2
  have hge' : ∀ i, i < 128 → ∀ x, x ∈ hs i → now ≤ (d x).at_ := fun i hi x hx => by
    obtain ⟨h1, h2⟩ := M.q.mem i hi x hx
    exact hge x h1 ((M.isIn x h1).1 (by rw [h2]; exact hx))
  have hzin := (M.isIn z hzm).2 hz
  obtain ⟨hne, hi2, x, hx0, hmin⟩ := M.q.least (now := now) (z := slotOf (d z).at_) (by omega) (fun x hx => (M.fits x hx).1) hge' (slotOf_lt _) (fun e => by rw [e] at hzin; cases hzin)
  have hnow : now ≤ 10000000 := Nat.le_trans (hge z hzm hz) (M.fits z hzm).1
  obtain ⟨i, hi⟩ : ∃ i, i = ff (slotOf now) F0 F1 := ⟨_, rfl⟩
  rw [← hi] at hi2 hx0
  obtain ⟨hxm, hxs⟩ := M.q.mem i hi2 x (List.mem_of_getElem? hx0)
  have hrx : rem x = true := (M.isIn x hxm).1 (by rw [hxs]; exact List.mem_of_getElem? hx0)
  obtain ⟨hxa, hxf, hxt⟩ := M.fits x hxm
  have hleast : ∀ y, y < m → rem y = true → key d x ≤ key d y := fun y hy hr => hmin _ (slotOf_lt _) y ((M.isIn y hy).2 hr)
  have e136 := (M.q.blk.cell 136).trans c136
  have e137 := (M.q.blk.cell 137).trans c137
  have e2 := (M.q.blk.cell 2).trans M.c2
  have HM : Hid (Sim K w B n m A d S cs hs ix F0 F1 true LB RB lc rc lv ls now rem) := M
  have HL : Hid (∀ y, y < m → rem y = true → key d x ≤ key d y) := hleast
  have HI : Hid (i = ff (slotOf now) F0 F1) := hi
  clear M hge hge' hzin hmin hleast hi
  go_enter Ybaf.func6, Ybaf.ntmps6
  go_upto_region 1 with fail
  go_quiet (fail)
  go_upto_region 2 with fail
  go_name_world W hW
  have fW : Frm (fun _ => False) w W := hW ▸ (Frm.refl _ w).drewN _
  have QW : Queue W B m A d S cs hs ix F0 F1 true := hW ▸ HM.out.q.drewN _
  have TW : TabAt W := hW ▸ HM.out.tab
  clear hW
  have e2W := (QW.blk.cell 2).trans HM.out.c2
  have HQW : Hid (Queue W B m A d S cs hs ix F0 F1 true) := QW
  clear QW e136 e137 e2
  go_region_with (go_at_call 10; refine (qnext_ok now i x B m A d S cs hs ix F0 F1 _ (by exact HQW.out.drewN 1) hnow (by omega) hne (by exact fun j hj => TW j hj) HI.out hi2 hx0).mono ?_; rintro e w1 ⟨rfl, hOff⟩)
  obtain ⟨cs1, h1, ix1, G0, G1, v, q1, q2, _, q3, q7, q8, q4, q5, q6⟩ := hOff
  subst hxs
  have q6' : Frm (fun k => k = S ∨ v.ownBlock = some k ∨ ∃ x, x < m ∧ k = A x) w w1 := (fW.mono (fun _ _ e => e.elim)).trans ((Frm.refl _ W).drew.trans q6 (fun _ _ e => e)) (fun _ _ e => e)
  have hz2 : 2 < cs1.size := by
    rw [q8]
    exact (Array.getElem?_eq_some_iff.1 HM.out.c2).1
  have a0 := ((q1.arr.blk x hxm).cell 0).trans (show _ = some (.int .i64 ((d x).at_ : Int)) from rfl)
  have c2 := (q1.blk.cell 2).trans ((q3 2 (by omega)).trans HM.out.c2)
  have f2 := q1.blk.frozen 2
  have Q1 : Hid (Queue w1 B m A d S cs1 (upd hs (slotOf (d x).at_) h1) ix1 G0 G1 true) := q1
  have R2 : Hid (∀ y, y ∈ h1 ↔ y ∈ hs (slotOf (d x).at_) ∧ y ≠ x) := q2
  have R3 : Hid (∀ j, j < 3 ∨ 133 ≤ j → cs1[j]? = cs[j]?) := q3
  have R4 : Hid (cs[3 + slotOf (d x).at_]? = some v) := q4
  have R5 : Hid (∀ u, cs1[3 + slotOf (d x).at_]? = some u → u.ownBlock = v.ownBlock) := q5
  have R7 : Hid (∀ j, j < 128 → j ≠ slotOf (d x).at_ → cs1[3 + j]? = cs[3 + j]?) := q7
  have R6 : Hid (Frm (fun k => k = S ∨ v.ownBlock = some k ∨ ∃ x, x < m ∧ k = A x) w w1) := q6'
  have R0 : Hid ((hs (slotOf (d x).at_))[0]? = some x) := hx0
  clear q1 q2 q3 q4 q5 q6 q7 q8 q6' hx0 e2W TW fW HQW HI hi2
  go_upto_region 4 with fail
  go_name_world W2 hW2
  have S2 : Blk W2 S (cs1.setIfInBounds 2 (.int .i64 (d x).at_)) 51 := hW2 ▸ Q1.out.blk.same 2 _
  have s4 : Frm (fun k => k = S) w1 W2 := hW2 ▸ (Frm.refl (fun k => k = S) w1).setCell ⟨S, 2, none⟩ _ (fun _ => rfl)
  clear hW2 a0 c2 f2
  have hge2 : ∀ j, j ≠ 2 → (cs1.setIfInBounds 2 (.int .i64 (d x).at_))[j]? = cs1[j]? := fun j hj => Array.getElem?_setIfInBounds_ne (Ne.symm hj)
  have h2v : (cs1.setIfInBounds 2 (.int .i64 (d x).at_))[2]? = some (.int .i64 (d x).at_) := Array.getElem?_setIfInBounds_self_of_lt hz2
  obtain ⟨cs2, hcs2⟩ : ∃ c, c = cs1.setIfInBounds 2 (.int .i64 (d x).at_) := ⟨_, rfl⟩
  rw [← hcs2] at S2 hge2 h2v
  clear hcs2 hz2
  have L1 := HM.out.links R4.out R6.out s4
  obtain ⟨⟨p, cap, hv, hc1, hc2, hc3⟩, _⟩ := L1.at_ _ _ hxf hxt
  have hlens := HM.out.lens _ _ hxf hxt
  have hcount := onLink_without (d := d) hxm hrx
  have hn0 : 0 < (ls (d x).fr (d x).tt).length := by omega
  obtain ⟨b, o, cb, rfl, hb, hcb⟩ := hc3 hn0
  have ho : o < cb.size := by
    obtain ⟨y, hy⟩ : ∃ y, (ls (d x).fr (d x).tt)[0]? = some y := ⟨(ls (d x).fr (d x).tt)[0], by simp [hn0]⟩
    have := hcb 0 y hy
    exact (Array.getElem?_eq_some_iff.1 this).1
  have htot := total_without hxm hrx
  have htot2 : total m rem ≤ 256 := Nat.le_trans (List.length_filter_le _ _) (by simp; exact hm)
  have ax := (Q1.out.arr.frm s4 (fun y hy e => by have := blk_ne (Q1.out.arr.blk y hy) Q1.out.blk (by decide); exact this e)).blk x hxm
  have hcellv : (rc (d x).fr)[(d x).tt]? = some (.slice (some ⟨b, o, none⟩) (ls (d x).fr (d x).tt).length cap) := by rw [← hv]; exact L1.cell _ _ hxf hxt
  go_wp2_with fail
  refine (leave_ok n LB (RB (d x).fr) (d x).fr (d x).tt x b o (ls (d x).fr (d x).tt).length cap (total m rem) (ix1 x) A d S cs2 (rc (d x).fr) cb lc W2 S2 ((hge2 134 (by decide)).trans ((R3.out 134 (by omega)).trans HM.out.c134)) ((hge2 133 (by decide)).trans ((R3.out 133 (by omega)).trans HM.out.c133)) L1.lb (L1.row _ hxf) (L1.rb _ hxf) hcellv hb ho hn0 hc1 hc2 ax rfl rfl hxf hxt HM.out.small.1 (by omega) htot2).mono ?_
  rintro e w3 ⟨rfl, hL⟩
  have hgone : Hid (Gone K w B n m A d S cs true LB RB lc (d x).at_ rem x w3) := by
    obtain ⟨cs', hs', ix', F0', F1', rc', lv', ls', g1, g2, g3⟩ := HM.out.gone hxm hrx Q1.out R2.out R3.out R4.out R5.out R7.out R6.out (cs2 := cs2) (fun j h1 h2 => hge2 j (by omega)) h2v s4 hv hc1 hc2 hcb hn0 hL (fun h => by cases h)
    exact ⟨cs', hs', ix', F0', F1', rc', lv', ls', g1, fun j hj => (g2 j hj).trans ((hge2 j (by omega)).trans (R3.out j (by omega))), g3⟩
  clear hL L1 S2 s4 ax hb hcb hcellv hge2 h2v hv
  go_wp2_with fail
  go_ret
  exact ⟨x, rfl, ⟨hxm, hrx, HL.out⟩, hgone.out⟩
end Go.Proofs.YbulkaryoFmt
