/-
  Sim.next where a schedule runs.
-/
import Derived.Test.YbulkaryoFmtErrorf
namespace Go.Proofs.YbulkaryoFmt
open Go.RowKit

/-- A store into the simulation, past the links. -/
theorem Sim.store {K : Nat → Prop} {w w' : World} {B n m : Nat} {A : Nat → Nat} {d : Nat → Arr} {S : Nat} {cs cs' : Array Value} {hs : Nat → List Nat} {ix : Nat → Nat} {F0 F1 : Nat} {ord : Bool} {LB : Nat} {RB : Nat → Nat} {lc : Array Value} {rc : Nat → Array Value} {lv : Nat → Nat → Value} {ls : Nat → Nat → List Nat} {now : Nat} {rem : Nat → Bool} (M : Sim K w B n m A d S cs hs ix F0 F1 ord LB RB lc rc lv ls now rem) (hS : Blk w' S cs' 51) (hc : ∀ j, j < 135 → cs'[j]? = cs[j]?) (hf : Frm (fun k => k = S) w w') : Sim K w' B n m A d S cs' hs ix F0 F1 ord LB RB lc rc lv ls now rem :=
  { M with
    q := M.q.move hS (fun j _ h => hc j (by omega)) hf (fun x hx => blk_ne (M.q.arr.blk x hx) M.q.blk (by decide)) (fun i hi v hv k hk e => by
      obtain ⟨v', h1, h2⟩ := M.q.slot i hi
      rw [hv] at h1
      have e' := Option.some.inj h1
      subst e'
      have := (h2.lt k hk).1
      have := M.q.low
      omega)
    l := M.l.frm hf (blk_ne M.l.lb M.q.blk (by decide)) (fun f hf' => blk_ne (M.l.rb f hf') M.q.blk (by decide)) (fun f t hf' ht k hk e => by
      have := ((M.l.at_ f t hf' ht).low k hk).1
      have := M.q.low
      omega)
    c134 := (hc 134 (by omega)).trans M.c134
    c133 := (hc 133 (by omega)).trans M.c133
    c2 := (hc 2 (by omega)).trans M.c2
    cross := fun i hi v hv => M.cross i hi v ((hc _ (by omega)).symm.trans hv)
    offQ := fun i hi v hv => M.offQ i hi v ((hc _ (by omega)).symm.trans hv)
    tab := fun j hj => by
      have h1 := M.tab j hj
      have hlt := World.block_lt_of_cell? w ⟨0, j, none⟩ h1
      rw [hf.cell (a := ⟨0, j, none⟩) hlt (fun e => M.base.2.1 (e ▸ M.base.1))]
      exact h1 }

theorem Sim.drewN {K : Nat → Prop} {w : World} {B n m : Nat} {A : Nat → Nat} {d : Nat → Arr} {S : Nat} {cs : Array Value} {hs : Nat → List Nat} {ix : Nat → Nat} {F0 F1 : Nat} {ord : Bool} {LB : Nat} {RB : Nat → Nat} {lc : Array Value} {rc : Nat → Array Value} {lv : Nat → Nat → Value} {ls : Nat → Nat → List Nat} {now : Nat} {rem : Nat → Bool} (M : Sim K w B n m A d S cs hs ix F0 F1 ord LB RB lc rc lv ls now rem) (q : Nat) : Sim K (w.drewN q) B n m A d S cs hs ix F0 F1 ord LB RB lc rc lv ls now rem :=
  M.frm (P := fun _ => False) ((Frm.refl _ w).drewN q) (fun _ h => h.elim) id id

theorem opt_eq_nil (A : Nat → Nat) (o : Option Nat) (w : World) : (binOp .eql 35 (optPtr A o) (.pointer none)).run Ybaf.prog w = .ok (.bool o.isNone) w := by
  cases o with
  | none => exact nil_eq_nil w
  | some x => exact ptr_eq_nil _ w

theorem opt_guard (A : Nat → Nat) (o : Option Nat) (w : World) : (eqGuard .eql 35 (Operand.tmp 40) (Operand.const (.pointer none)) (optPtr A o) (.pointer none)).run Ybaf.prog w = .ok () w := by
  cases o with
  | none => simp [eqGuard, optPtr]
  | some x => simp [eqGuard, optPtr]

/-- Behind next with a schedule: x has been taken off. -/
structure Took (K : Nat → Prop) (w : World) (B n m : Nat) (A : Nat → Nat) (d : Nat → Arr) (S : Nat) (cs : Array Value) (LB : Nat) (RB : Nat → Nat) (lc : Array Value) (now : Nat) (rem : Nat → Bool) (x step : Nat) (w' : World) : Prop where
  ex : ∃ cs' hs' ix' F0 F1 rc' lv' ls', Sim K w' B n m A d S cs' hs' ix' F0 F1 false LB RB lc rc' lv' ls' now (without rem x) ∧ (∀ j, j < 2 ∨ 134 ≤ j → j ≠ 137 → cs'[j]? = cs[j]?) ∧ cs'[137]? = some (.int .i64 step) ∧ Frm (fun k => ¬ K k) w w'

set_option maxRecDepth 100000 in
set_option maxHeartbeats 4000000 in
theorem next_take {K : Nat → Prop} {w : World} {B n m : Nat} {A : Nat → Nat} {d : Nat → Arr} {S : Nat} {cs : Array Value} {hs : Nat → List Nat} {ix : Nat → Nat} {F0 F1 : Nat} {LB : Nat} {RB : Nat → Nat} {lc : Array Value} {rc : Nat → Array Value} {lv : Nat → Nat → Value} {ls : Nat → Nat → List Nat} {now : Nat} {rem : Nat → Bool} (M : Sim K w B n m A d S cs hs ix F0 F1 false LB RB lc rc lv ls now rem)
    {sb ns cps step f t : Nat} (c136 : cs[136]? = some (.slice (some ⟨sb, 0, none⟩) ns cps)) (c137 : cs[137]? = some (.int .i64 step)) (hst : step < ns) (hns : ns ≤ 256) (hsc : w.cell? ⟨sb, step * 2, none⟩ = some (.int .i64 f) ∧ w.cell? ⟨sb, step * 2 + 1, none⟩ = some (.int .i64 t)) (hf : f < n) (ht : t < n)
    {o : Option Nat} (hlead : LeadIn (hd m d rem) (fun x => (d x).cut) (fun f t => f < n ∧ t < n) o) {x step' : Nat} (hx : (o = some x ∧ step' = step) ∨ (o = none ∧ hd m d rem f t = some x ∧ step' = step + 1)) :
    Calls Ybaf.prog 6 #[.pointer (some ⟨S, 0, none⟩)] w fun en w' => en = .returned (.pointer (some ⟨A x, 0, none⟩)) ∧ Took K w B n m A d S cs LB RB lc now rem x step' w' := by
  have HM : Hid (Sim K w B n m A d S cs hs ix F0 F1 false LB RB lc rc lv ls now rem) := M
  have hn4 := M.small.1
  have hm := M.small.2
  have e136 := (M.q.blk.cell 136).trans c136
  have e137 := (M.q.blk.cell 137).trans c137
  have HC : Hid (cs[136]? = some (.slice (some ⟨sb, 0, none⟩) ns cps) ∧ cs[137]? = some (.int .i64 step)) := ⟨c136, c137⟩
  have HLD : Hid (LeadIn (hd m d rem) (fun x => (d x).cut) (fun f t => f < n ∧ t < n) o) := hlead
  have HX : Hid ((o = some x ∧ step' = step) ∨ (o = none ∧ hd m d rem f t = some x ∧ step' = step + 1)) := hx
  have HSC : Hid (w.cell? ⟨sb, step * 2, none⟩ = some (.int .i64 f) ∧ w.cell? ⟨sb, step * 2 + 1, none⟩ = some (.int .i64 t)) := hsc
  have hne : ((step : Int) == ns) = false := beq_eq_false_iff_ne.2 (by omega)
  have hne2 : ¬ (step : Int) = ns := by omega
  clear M c136 c137 hlead hx hsc
  go_enter Ybaf.func6, Ybaf.ntmps6
  go_upto_region 1 with fail
  go_quiet (fail)
  go_upto_region 7 with (go_at_call 12; refine (lead_ok (HM.out.drewN _)).mono ?_; rintro e w1 ⟨o', rfl, hw1, hl'⟩; obtain ⟨q1, hw1⟩ := hw1; have hoo := hl'.unique HLD.out; subst hoo; clear hl')
  go_name_world W hW
  have HMW : Hid (Sim K W B n m A d S cs hs ix F0 F1 false LB RB lc rc lv ls now rem) := hW ▸ HM.out.drewN _
  have fW : Frm (fun _ => False) w W := hW ▸ (Frm.refl _ w).drewN _
  have hsc : W.cell? ⟨sb, step * 2, none⟩ = some (.int .i64 f) ∧ W.cell? ⟨sb, step * 2 + 1, none⟩ = some (.int .i64 t) := hW ▸ HSC.out
  clear hW hw1 HSC e136 e137
  have onil := opt_eq_nil A o'
  have ogd := opt_guard A o'
  go_upto_if 41 with fail
  clear onil ogd
  go_cut [4] (fun s4 wx => s4 = .pointer (some ⟨A x, 0, none⟩) ∧ (x < m ∧ rem x = true ∧ hd m d rem (d x).fr (d x).tt = some x) ∧ ∃ cs2, Sim K wx B n m A d S cs2 hs ix F0 F1 false LB RB lc rc lv ls now rem ∧ (∀ j, j ≠ 137 → cs2[j]? = cs[j]?) ∧ cs2[137]? = some (.int .i64 step') ∧ Frm (fun k => ¬ K k) W wx)
  case first =>
    rcases HX.out with ⟨rfl, rfl⟩ | ⟨rfl, hxd, rfl⟩
    · have HH : Hid ((x < m ∧ rem x = true ∧ hd m d rem (d x).fr (d x).tt = some x) ∧ ∃ cs2, Sim K W B n m A d S cs2 hs ix F0 F1 false LB RB lc rc lv ls now rem ∧ (∀ j, j ≠ 137 → cs2[j]? = cs[j]?) ∧ cs2[137]? = some (.int .i64 step') ∧ Frm (fun k => ¬ K k) W W) := by
        obtain ⟨⟨f1, t1, _, hx1⟩, _, _⟩ := HLD.out
        obtain ⟨h1, h2, h3, h4⟩ := hd_mem hx1
        exact ⟨⟨h1, h2, by rw [h3, h4]; exact hx1⟩, cs, HMW.out, fun _ _ => rfl, HC.out.2, Frm.refl _ _⟩
      simp only [optPtr, Option.isNone]
      go_wp2_with fail
      go_meet
      exact ⟨rfl, HH.out⟩
    · obtain ⟨h1, h2, h3, h4⟩ := hd_mem hxd
      have e136 := (HMW.out.q.blk.cell 136).trans HC.out.1
      have e137 := (HMW.out.q.blk.cell 137).trans HC.out.2
      simp only [optPtr, Option.isNone]
      go_upto_region 8 with fail
      have hSlt : W.heap.size ≠ S := by have := HMW.out.q.blk.lt; omega
      have hsblt : W.heap.size ≠ sb := by have := World.block_lt_of_cell? _ _ hsc.1; have h' : sb < W.heap.size := this; omega
      obtain ⟨s1, s2⟩ := hsc
      have hst' : (step : Int) < ns := by omega
      have hst0 : (0 : Int) ≤ step := by omega
      have al : Hid (∀ (a : Addr) (v : Value), W.cell? a = some v → ∀ ob : Obj, (W.alloc ob).cell? a = some v) := fun a v h ob => (((Frm.refl (fun _ => False) W).alloc ob).cell (a := a) (World.block_lt_of_cell? _ _ h) id).trans h
      have a136 := al.out _ _ e136
      have a137 := al.out _ _ e137
      have as1 := al.out _ _ s1
      have as2 := al.out _ _ s2
      go_cut [5] (fun s5 wx => s5 = .pointer (some ⟨W.heap.size, 0, none⟩) ∧ Blk wx W.heap.size #[.int .i64 f, .int .i64 t] 57 ∧ Frm (fun _ => False) W wx)
      case first =>
        go_region
        all_goals
          go_wp2_with fail
          go_meet
          exact ⟨rfl, Blk.new W _ 57, ((Frm.refl _ W).alloc _).drew⟩
      case rest =>
        obtain ⟨rfl, hLb, fL⟩ := hcut
        obtain ⟨w2, rfl⟩ : ∃ x, x = wc := ⟨wc, rfl⟩
        have HM2 : Hid (Sim K w2 B n m A d S cs hs ix F0 F1 false LB RB lc rc lv ls now rem) := HMW.out.frm fL (fun _ h => h.elim) id id
        clear a136 a137 as1 as2 al s1 s2 e136 e137 HMW
        have l0 := hLb.cell 0
        have l1 := hLb.cell 1
        simp only [List.getElem?_toArray, List.getElem?_cons_zero, List.getElem?_cons_succ] at l0 l1
        have c134 := (HM2.out.q.blk.cell 134).trans HM2.out.c134
        have cRow := (HM2.out.l.lb.cell f).trans (HM2.out.l.row f hf)
        have cLink := ((HM2.out.l.rb f hf).cell t).trans (HM2.out.l.cell f t hf ht)
        have hex := HM2.out.exact_ rfl f t hf ht
        obtain ⟨⟨p, c, hv, hc1, hc2, hc3⟩, _⟩ := HM2.out.l.at_ f t hf ht
        obtain ⟨rest, hl⟩ : ∃ rest, ls f t = x :: rest := by
          unfold hd at hxd
          rw [← hex] at hxd
          cases hl : ls f t with
          | nil => rw [hl] at hxd; cases hxd
          | cons y rest =>
            rw [hl] at hxd
            have : y = x := Option.some.inj hxd
            rw [this]
            exact ⟨rest, rfl⟩
        rw [hl] at hv hc3
        obtain ⟨b, o2, cb, rfl, hb, hcb⟩ := hc3 (by simp)
        have cy : w2.cell? ⟨b, o2, none⟩ = some (.pointer (some ⟨A x, 0, none⟩)) := (hb.cell o2).trans (by have := hcb 0 x rfl; rw [Nat.add_zero] at this; exact this)
        rw [hv] at cLink
        obtain ⟨len, hlen⟩ : ∃ len, len = (x :: rest).length := ⟨_, rfl⟩
        rw [← hlen] at cLink
        have hl0' : 0 < len := by rw [hlen]; simp
        have hl0 : (0 : Int) < len := by omega
        have hle : ((len : Int) == 0) = false := beq_eq_false_iff_ne.2 (by omega)
        have hle2 : ¬ (len : Int) = 0 := by omega
        have e137 := (HM2.out.q.blk.cell 137).trans HC.out.2
        have z137 := HM2.out.q.blk.frozen 137
        have hbS : b ≠ S := blk_ne hb HM2.out.q.blk (by decide)
        have hf' : (f : Int) < n := by omega
        have ht' : (t : Int) < n := by omega
        have hf0 : (0 : Int) ≤ f := by omega
        have ht0 : (0 : Int) ≤ t := by omega
        have hstw : (step : Int) + 1 ≤ 256 := by omega
        have HB2 : Hid (b ≠ S) := hbS
        have cy' : ∀ v, (w2.setCell ⟨S, 137, none⟩ v).cell? ⟨b, o2, none⟩ = some (.pointer (some ⟨A x, 0, none⟩)) := fun v => (World.cell?_setCell_far w2 _ _ _ (fun e => hbS e.symm)).trans cy
        have HFL : Hid (Frm (fun _ => False) W w2) := fL
        have HXX : Hid (x < m ∧ rem x = true ∧ hd m d rem (d x).fr (d x).tt = some x) := ⟨h1, h2, by rw [h3, h4]; exact hxd⟩
        clear hv hc1 hc2 hc3 hex hl hb hcb hlen hbS hLb fL h3 h4 hxd
        go_upto_region 9 with fail
        go_quiet (fail)
        go_upto_region 17 with fail
        go_name_world W3 hW3
        have f3 : Frm (fun j => j = S) w2 W3 := hW3 ▸ ((Frm.refl (fun j => j = S) w2).drewN _).setCell ⟨S, 137, none⟩ _ (fun _ => rfl)
        have S3 : Blk W3 S (cs.setIfInBounds 137 (.int .i64 ((step + 1 : Nat) : Int))) 51 := hW3 ▸ (HM2.out.q.blk.drewN _).same 137 _
        have cy3 : W3.cell? ⟨b, o2, none⟩ = some (.pointer (some ⟨A x, 0, none⟩)) := (f3.cell (a := ⟨b, o2, none⟩) (World.block_lt_of_cell? _ _ cy) HB2.out).trans cy
        have HH : Hid (∃ cs2, Sim K W3 B n m A d S cs2 hs ix F0 F1 false LB RB lc rc lv ls now rem ∧ (∀ j, j ≠ 137 → cs2[j]? = cs[j]?) ∧ cs2[137]? = some (.int .i64 ((step + 1 : Nat) : Int)) ∧ Frm (fun k => ¬ K k) W W3) := ⟨_, HM2.out.store S3 (fun j hj => Array.getElem?_setIfInBounds_ne (by omega)) f3, fun j hj => Array.getElem?_setIfInBounds_ne (Ne.symm hj), Array.getElem?_setIfInBounds_self_of_lt (Array.getElem?_eq_some_iff.1 HC.out.2).1, (HFL.out.mono (fun _ _ e => e.elim)).trans f3 (fun j _ e h => HM2.out.base.2.1 (e ▸ h))⟩
        clear hW3 f3 S3 cy cy' e137 z137 c134 cRow cLink l0 l1
        go_wp2_with fail
        go_meet
        exact ⟨rfl, HXX.out, HH.out⟩
  case rest =>
    obtain ⟨rfl, ⟨hxm, hrx, hxh⟩, cs2, hM2, hcs2, h137, f2⟩ := hcut
    obtain ⟨w2, rfl⟩ : ∃ x, x = wc := ⟨wc, rfl⟩
    have HM2 : Hid (Sim K w2 B n m A d S cs2 hs ix F0 F1 false LB RB lc rc lv ls now rem) := hM2
    have HC2 : Hid ((∀ j, j ≠ 137 → cs2[j]? = cs[j]?) ∧ cs2[137]? = some (.int .i64 step')) := ⟨hcs2, h137⟩
    have HF2 : Hid (Frm (fun k => ¬ K k) w w2) := (fW.mono (fun _ _ e => e.elim)).trans f2 (fun _ _ e => e)
    have HXH : Hid (hd m d rem (d x).fr (d x).tt = some x) := hxh
    clear hM2 hcs2 h137 f2 hxh HMW HC hsc fW HLD HX HM
    obtain ⟨hxa, hxf, hxt⟩ := HM2.out.fits x hxm
    go_upto_region 19 with (go_at_call 14; refine (qremove_ok x B m A d S cs2 hs ix F0 F1 w2 HM2.out.q (by omega) hxa ((HM2.out.isIn x hxm).2 hrx)).mono ?_; rintro e w3 ⟨rfl, hOff⟩)
    obtain ⟨cs1, h1, ix1, G0, G1, v, q1, q2, _, q3, q7, q8, q4, q5, q6⟩ := hOff
    have L1 := HM2.out.links q4 q6 (Frm.refl (fun k => k = S) w3)
    obtain ⟨⟨p, cap, hv, hc1, hc2, hc3⟩, _⟩ := L1.at_ _ _ hxf hxt
    have hlens := HM2.out.lens _ _ hxf hxt
    have hcount := onLink_without (d := d) hxm hrx
    have hn0 : 0 < (ls (d x).fr (d x).tt).length := by omega
    obtain ⟨b, o, cb, rfl, hb, hcb⟩ := hc3 hn0
    have ho : o < cb.size := by
      obtain ⟨y, hy⟩ : ∃ y, (ls (d x).fr (d x).tt)[0]? = some y := ⟨(ls (d x).fr (d x).tt)[0], by simp [hn0]⟩
      have := hcb 0 y hy
      exact (Array.getElem?_eq_some_iff.1 this).1
    have htot := total_without hxm hrx
    have htot2 : total m rem ≤ 256 := Nat.le_trans (List.length_filter_le _ _) (by simp; exact hm)
    have ax := q1.arr.blk x hxm
    have hcellv : (rc (d x).fr)[(d x).tt]? = some (.slice (some ⟨b, o, none⟩) (ls (d x).fr (d x).tt).length cap) := by rw [← hv]; exact L1.cell _ _ hxf hxt
    have hlv := leave_ok n LB (RB (d x).fr) (d x).fr (d x).tt x b o (ls (d x).fr (d x).tt).length cap (total m rem) (ix1 x) A d S cs1 (rc (d x).fr) cb lc w3 q1.blk ((q3 134 (by omega)).trans HM2.out.c134) ((q3 133 (by omega)).trans HM2.out.c133) L1.lb (L1.row _ hxf) (L1.rb _ hxf) hcellv hb ho hn0 hc1 hc2 ax rfl rfl hxf hxt hn4 (by omega) htot2
    have HLV : Hid (Calls Ybaf.prog 11 _ w3 _) := hlv
    have HG : Hid (∀ w4, Left S (RB (d x).fr) b o (d x).tt (ls (d x).fr (d x).tt).length cap (total m rem) cs1 (rc (d x).fr) cb w3 w4 → Took K w B n m A d S cs LB RB lc now rem x step' w4) := fun w4 hL => by
      obtain ⟨cs', hs', ix', F0', F1', rc', lv', ls', g1, g2, g3⟩ := HM2.out.gone hxm hrx q1 q2 q3 q4 q5 q7 q6 (cs2 := cs1) (fun _ _ _ => rfl) ((q3 2 (by omega)).trans HM2.out.c2) (Frm.refl (fun k => k = S) w3) hv hc1 hc2 hcb hn0 hL (fun _ => by
        rw [HM2.out.exact_ rfl _ _ hxf hxt]
        have := HXH.out
        unfold hd at this
        rw [List.head?_eq_getElem?] at this
        exact this)
      exact ⟨cs', hs', ix', F0', F1', rc', lv', ls', g1, fun j hj hj2 => (g2 j hj).trans ((q3 j (by omega)).trans (HC2.out.1 j hj2)), (g2 137 (by omega)).trans ((q3 137 (by omega)).trans HC2.out.2), HF2.out.trans g3 (fun _ _ e => e)⟩
    clear hlv q1 q2 q3 q4 q5 q6 q7 q8 L1 hv hc1 hc2 hc3 hb hcb ax hcellv HM2 HC2 HF2
    go_wp2_with fail
    refine HLV.out.mono ?_
    rintro e w4 ⟨rfl, hL⟩
    have HE : Hid (Took K w B n m A d S cs LB RB lc now rem x step' w4) := HG.out w4 hL
    clear HLV HG hL
    go_wp2_with fail
    go_ret
    exact ⟨rfl, HE.out⟩
end Go.Proofs.YbulkaryoFmt
