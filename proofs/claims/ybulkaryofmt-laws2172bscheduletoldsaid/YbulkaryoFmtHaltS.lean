/-
  Sim.next where a schedule runs and the link has no frame.
-/
import Derived.Test.YbulkaryoFmtNextS
namespace Go.Proofs.YbulkaryoFmt
open Go.RowKit Go.Extern.Stop Go.Stop Go.Extern

/-- Behind next with a schedule: halted. -/
structure Halt (K : Nat → Prop) (w : World) (S : Nat) (cs : Array Value) (w' : World) : Prop where
  ex : ∃ cs' t v, Blk w' S cs' 51 ∧ cs'[143]? = some (.iface t v) ∧ cs'[144]? = some (.iface t v) ∧ (∀ j, j < 143 → cs'[j]? = cs[j]?) ∧ Frm (fun k => ¬ K k) w w'

set_option maxRecDepth 100000 in
set_option maxHeartbeats 4000000 in
theorem next_halt {K : Nat → Prop} {w : World} {B n m : Nat} {A : Nat → Nat} {d : Nat → Arr} {S : Nat} {cs : Array Value} {hs : Nat → List Nat} {ix : Nat → Nat} {F0 F1 : Nat} {LB : Nat} {RB : Nat → Nat} {lc : Array Value} {rc : Nat → Array Value} {lv : Nat → Nat → Value} {ls : Nat → Nat → List Nat} {now : Nat} {rem : Nat → Bool} (F : Interp) (hF : F.answers w.tape) (M : Sim K w B n m A d S cs hs ix F0 F1 false LB RB lc rc lv ls now rem) (hMem : Mems w n cs K)
    {sb ns cps step f t : Nat} (c136 : cs[136]? = some (.slice (some ⟨sb, 0, none⟩) ns cps)) (c137 : cs[137]? = some (.int .i64 step)) (c143 : cs[143]? = some .nilIface) (c144 : cs[144]? = some .nilIface) (hst : step < ns) (hns : ns ≤ 256) (hsc : w.cell? ⟨sb, step * 2, none⟩ = some (.int .i64 f) ∧ w.cell? ⟨sb, step * 2 + 1, none⟩ = some (.int .i64 t)) (hf : f < n) (ht : t < n)
    (hlead : LeadIn (hd m d rem) (fun x => (d x).cut) (fun f t => f < n ∧ t < n) none) (hx : hd m d rem f t = none) :
    Calls Ybaf.prog 6 #[.pointer (some ⟨S, 0, none⟩)] w fun en w' => en = .returned (.pointer none) ∧ Halt K w S cs w' := by
  have HM : Hid (Sim K w B n m A d S cs hs ix F0 F1 false LB RB lc rc lv ls now rem) := M
  have HMM : Hid (Mems w n cs K) := hMem
  have hn4 := M.small.1
  have e136 := (M.q.blk.cell 136).trans c136
  have e137 := (M.q.blk.cell 137).trans c137
  have HC : Hid (cs[136]? = some (.slice (some ⟨sb, 0, none⟩) ns cps) ∧ cs[137]? = some (.int .i64 step) ∧ cs[143]? = some .nilIface ∧ cs[144]? = some .nilIface) := ⟨c136, c137, c143, c144⟩
  have HLD : Hid (LeadIn (hd m d rem) (fun x => (d x).cut) (fun f t => f < n ∧ t < n) none) := hlead
  have HX : Hid (hd m d rem f t = none) := hx
  have HF : Hid (F.answers w.tape) := hF
  have HSC : Hid (w.cell? ⟨sb, step * 2, none⟩ = some (.int .i64 f) ∧ w.cell? ⟨sb, step * 2 + 1, none⟩ = some (.int .i64 t)) := hsc
  have hne : ((step : Int) == ns) = false := beq_eq_false_iff_ne.2 (by omega)
  have hne2 : ¬ (step : Int) = ns := by omega
  clear M hMem c136 c137 c143 c144 hlead hx hsc hF
  go_enter Ybaf.func6, Ybaf.ntmps6
  go_upto_region 1 with fail
  go_quiet (fail)
  go_upto_region 7 with (go_at_call 12; refine (lead_ok (HM.out.drewN _)).mono ?_; rintro e w1 ⟨o', rfl, hw1, hl'⟩; obtain ⟨q1, hw1⟩ := hw1; have hoo := hl'.unique HLD.out; subst hoo; clear hl')
  go_name_world W hW
  have HMW : Hid (Sim K W B n m A d S cs hs ix F0 F1 false LB RB lc rc lv ls now rem) := hW ▸ HM.out.drewN _
  have fW : Frm (fun _ => False) w W := hW ▸ (Frm.refl _ w).drewN _
  have hsc : W.cell? ⟨sb, step * 2, none⟩ = some (.int .i64 f) ∧ W.cell? ⟨sb, step * 2 + 1, none⟩ = some (.int .i64 t) := hW ▸ HSC.out
  clear hW hw1 HSC e136 e137
  have e136 := (HMW.out.q.blk.cell 136).trans HC.out.1
  have e137 := (HMW.out.q.blk.cell 137).trans HC.out.2.1
  have onil := nil_eq_nil
  simp only [optPtr]
  go_upto_region 8 with fail
  clear onil
  have hSlt : W.heap.size ≠ S := by have := HMW.out.q.blk.lt; omega
  have hsblt : W.heap.size ≠ sb := by have := World.block_lt_of_cell? _ _ hsc.1; have h' : sb < W.heap.size := this; omega
  obtain ⟨s1, s2⟩ := hsc
  have hst' : (step : Int) < ns := by omega
  have hst0 : (0 : Int) ≤ step := by omega
  have al : Hid (∀ (a : Addr) (v : Value), W.cell? a = some v → ∀ ob : Obj, (W.alloc ob).cell? a = some v) := fun a v h ob => (((Frm.refl (fun _ => False) W).alloc ob).cell (a := a) (World.block_lt_of_cell? _ _ h) id).trans h
  have a136 := al.out _ _ e136
  have a137 := al.out _ _ e137
  have as1 := al.out _ _ s1
  have as2 := al.out _ _ s2
  go_cut [5] (fun s5 wx => s5 = .pointer (some ⟨W.heap.size, 0, none⟩) ∧ Blk wx W.heap.size #[.int .i64 f, .int .i64 t] 57 ∧ Frm (fun _ => False) W wx)
  case first =>
    go_region
    all_goals
      go_wp2_with fail
      go_meet
      exact ⟨rfl, Blk.new W _ 57, ((Frm.refl _ W).alloc _).drew⟩
  case rest =>
    obtain ⟨rfl, hLb, fL⟩ := hcut
    obtain ⟨w2, rfl⟩ : ∃ x, x = wc := ⟨wc, rfl⟩
    have HM2 : Hid (Sim K w2 B n m A d S cs hs ix F0 F1 false LB RB lc rc lv ls now rem) := HMW.out.frm fL (fun _ h => h.elim) id id
    have f02 : Frm (fun _ => False) w w2 := fW.trans fL (fun _ _ e => e)
    clear a136 a137 as1 as2 al s1 s2 e136 e137 HMW
    have l0 := hLb.cell 0
    have l1 := hLb.cell 1
    simp only [List.getElem?_toArray, List.getElem?_cons_zero, List.getElem?_cons_succ] at l0 l1
    have c134 := (HM2.out.q.blk.cell 134).trans HM2.out.c134
    have cRow := (HM2.out.l.lb.cell f).trans (HM2.out.l.row f hf)
    have cLink := ((HM2.out.l.rb f hf).cell t).trans (HM2.out.l.cell f t hf ht)
    have hex := HM2.out.exact_ rfl f t hf ht
    obtain ⟨⟨p, c, hv, hc1, hc2, hc3⟩, _⟩ := HM2.out.l.at_ f t hf ht
    have hl : ls f t = [] := by
      have := HX.out
      unfold hd at this
      rw [← hex] at this
      exact List.head?_eq_none_iff.1 this
    rw [hv, hl] at cLink
    have hf' : (f : Int) < n := by omega
    have ht' : (t : Int) < n := by omega
    have hf0 : (0 : Int) ≤ f := by omega
    have ht0 : (0 : Int) ≤ t := by omega
    have hf4 : (f : Int) < 4 := by omega
    have ht4 : (t : Int) < 4 := by omega
    have hstw : (step : Int) + 1 ≤ 256 := by omega
    clear hv hc1 hc2 hc3 hex hl hLb
    go_upto_region 9 with fail
    go_quiet (fail)
    go_upto_region 11 with fail
    go_name_world W3 hW3
    have f23 : Frm (fun _ => False) w2 W3 := hW3 ▸ (Frm.refl (fun _ => False) w2).drewN _
    have f03 : Frm (fun _ => False) w W3 := f02.trans f23 (fun _ _ e => e)
    have HM3 : Hid (Sim K W3 B n m A d S cs hs ix F0 F1 false LB RB lc rc lv ls now rem) := hW3 ▸ HM2.out.drewN _
    have l0' : W3.cell? ⟨W.heap.size, 0, none⟩ = some (.int .i64 f) := hW3 ▸ l0
    have l1' : W3.cell? ⟨W.heap.size, 1, none⟩ = some (.int .i64 t) := hW3 ▸ l1
    clear hW3 l0 l1 c134 cRow cLink
    obtain ⟨MB, mc, NB, nc, m0, m1, m2, m3, m4, m5, m6⟩ := HMM.out
    obtain ⟨q1, cm1, r1, r2, r3, r4⟩ := m5 f hf
    obtain ⟨q2, cm2, t1, t2, t3, t4⟩ := m5 t ht
    obtain ⟨s1, hs1⟩ := m6 f (by omega)
    obtain ⟨s2, hs2⟩ := m6 t (by omega)
    have k0 := (HM3.out.q.blk.cell 0).trans m0
    have k1 := ((f03.blk m2 id).cell f).trans r1
    have k2 := ((f03.blk m2 id).cell t).trans t1
    have k3 := ((f03.blk r3 id).cell 0).trans r4
    have k4 := ((f03.blk t3 id).cell 0).trans t4
    have k5 := ((f03.blk m4 id).cell f).trans hs1
    have k6 := ((f03.blk m4 id).cell t).trans hs2
    clear m0 m1 m2 m3 m4 m5 m6 r1 r2 r3 r4 t1 t2 t3 t4 hs1 hs2
    have HF03 : Hid (Frm (fun _ => False) w W3) := f03
    clear f03 f02 f23 fW fL
    go_quiet (fail)
    go_upto_region 12 with fail
    go_name_world W4 hW4
    have f34 : Frm (fun _ => False) W3 W4 := hW4 ▸ (Frm.refl (fun _ => False) W3).drewN _
    have S4 : Blk W4 S cs 51 := f34.blk HM3.out.q.blk id
    have f04 : Frm (fun _ => False) w W4 := HF03.out.trans f34 (fun _ _ e => e)
    have HT4 : Hid (F.answers W4.tape) := by
      have := HF.out
      rw [← f04.tape] at this
      exact this
    have e137 := (S4.cell 137).trans HC.out.2.1
    have HS4 : Hid (Blk W4 S cs 51 ∧ Frm (fun _ => False) w W4) := ⟨S4, f04⟩
    clear hW4 k0 k1 k2 k3 k4 k5 k6 l0' l1' S4 f04 f34 HF03
    go_upto_region 13 with (go_at_call 13; refine (errorf_ok F ((step : Int) + 1) s1 s2 _ _ (by exact HT4.out) (by rw [World.cell?_alloc_at (hn := by simp)]; rfl) (by rw [World.cell?_alloc_at (hn := by simp)]; rfl) (by rw [World.cell?_alloc_at (hn := by simp)]; rfl) (by rw [World.cell?_alloc_at (hn := by simp)]; rfl) (by rw [World.cell?_alloc_at (hn := by simp)]; rfl)).mono ?_; rintro e w5 ⟨⟨tt, vv, rfl⟩, fE⟩; have f45 : Frm (fun _ => False) W4 w5 := ((Frm.refl (fun _ => False) W4).alloc _).trans fE (fun _ _ e => e); have S5 := f45.blk HS4.out.1 id; have e144 := (S5.cell 144).trans HC.out.2.2.2; have z144 := S5.frozen 144; have HS5 : Hid (Blk w5 S cs 51 ∧ Frm (fun _ => False) w w5) := ⟨S5, HS4.out.2.trans f45 (fun _ _ e => e)⟩; clear S5 f45 fE)
    have hz4 : 144 < cs.size := (Array.getElem?_eq_some_iff.1 HC.out.2.2.2).1
    go_name_world W6 hW6
    have f56 : Frm (fun k => k = S) w5 W6 := hW6 ▸ (Frm.refl (fun k => k = S) w5).setCell ⟨S, 144, none⟩ _ (fun _ => rfl)
    have S6 : Blk W6 S (cs.setIfInBounds 144 (.iface tt vv)) 51 := hW6 ▸ HS5.out.1.same 144 _
    have e144 := (S6.cell 144).trans (Array.getElem?_setIfInBounds_self_of_lt hz4)
    have e143 := (S6.cell 143).trans ((Array.getElem?_setIfInBounds_ne (by decide)).trans HC.out.2.2.1)
    have z143 := S6.frozen 143
    have HH : Hid (Halt K w S cs (W6.setCell ⟨S, 143, none⟩ (.iface tt vv))) := ⟨_, tt, vv, S6.same 143 _, Array.getElem?_setIfInBounds_self_of_lt (by simp; omega), by rw [Array.getElem?_setIfInBounds_ne (by decide), Array.getElem?_setIfInBounds_self_of_lt hz4], fun j hj => by rw [Array.getElem?_setIfInBounds_ne (by omega), Array.getElem?_setIfInBounds_ne (by omega)], ((HS5.out.2.mono (fun _ _ e => e.elim)).trans f56 (fun j _ e h => HM3.out.base.2.1 (e ▸ h))).trans ((Frm.refl (fun k => k = S) W6).setCell ⟨S, 143, none⟩ _ (fun _ => rfl)) (fun j _ e h => HM3.out.base.2.1 (e ▸ h))⟩
    clear hW6 f56 S6 HS5 HS4
    go_wp2_with fail
    go_ret
    exact ⟨rfl, HH.out⟩
end Go.Proofs.YbulkaryoFmt
