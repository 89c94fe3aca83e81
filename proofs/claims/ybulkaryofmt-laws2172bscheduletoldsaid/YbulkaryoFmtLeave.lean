/-
  Sim.leave: the oldest of a link goes.
-/
import Derived.Test.YbulkaryoFmtTake
namespace Go.Proofs.YbulkaryoFmt
open Go.RowKit

theorem blk_ne {w : World} {a b : Nat} {cs ds : Array Value} {t u : TypeId} (h : Blk w a cs t) (k : Blk w b ds u) (hne : t ≠ u) : a ≠ b := fun e => by
  subst e
  unfold Blk at h k
  rw [h] at k
  injection k with k
  injection k with _ k
  exact hne k

/-- What is left of a link's slice. -/
def leftOf (b o len cap : Nat) : Value := if len = 1 then .slice (some ⟨b, o, none⟩) 0 cap else .slice (some ⟨b, o + 1, none⟩) (len - 1) (cap - 1)

/-- Behind leave. -/
structure Left (S RBf b o t len cap on : Nat) (cs rc cb : Array Value) (w w' : World) : Prop where
  sB : Blk w' S (cs.setIfInBounds 133 (.int .i64 ((on : Int) - 1))) 51
  rB : Blk w' RBf (rc.setIfInBounds t (leftOf b o len cap)) 24
  bB : Blk w' b (cb.setIfInBounds o (.pointer none)) 35
  frm : Frm (fun k => k = S ∨ k = RBf ∨ k = b) w w'

set_option maxRecDepth 100000 in
set_option maxHeartbeats 2000000 in
theorem leave_ok (n LB RBf f t x b o len cap on ixx : Nat) (A : Nat → Nat) (d : Nat → Arr) (S : Nat) (cs rc cb lc : Array Value) (w : World) (hS : Blk w S cs 51) (hL : cs[134]? = some (.slice (some ⟨LB, 0, none⟩) n n)) (hon : cs[133]? = some (.int .i64 on))
    (hLB : Blk w LB lc 52) (hrow : lc[f]? = some (.slice (some ⟨RBf, 0, none⟩) n n)) (hRB : Blk w RBf rc 24) (hcell : rc[t]? = some (.slice (some ⟨b, o, none⟩) len cap)) (hb : Blk w b cb 35) (ho : o < cb.size) (hlen : 0 < len) (hcap : len ≤ cap) (hcm : cap ≤ 9223372036854775807)
    (ha : Blk w (A x) (arrCells (d x) x ixx) 34) (hf : (d x).fr = f) (ht : (d x).tt = t) (hfn : f < n) (htn : t < n) (hn : n ≤ 4) (hon0 : 0 < on) (hon1 : on ≤ 256) :
    Calls Ybaf.prog 11 #[.pointer (some ⟨S, 0, none⟩), .pointer (some ⟨A x, 0, none⟩)] w fun en w' => en = .returned (.tuple #[]) ∧ Left S RBf b o t len cap on cs rc cb w w' := by
  have n1 : b ≠ S := blk_ne hb hS (by decide)
  have n2 : b ≠ LB := blk_ne hb hLB (by decide)
  have n3 : b ≠ RBf := blk_ne hb hRB (by decide)
  have n4 : b ≠ A x := blk_ne hb ha (by decide)
  have n5 : RBf ≠ S := blk_ne hRB hS (by decide)
  have cL := (hS.cell 134).trans hL
  have cR := (hLB.cell f).trans hrow
  have a2 := (ha.cell 2).trans (show _ = some (.int .i64 ((d x).fr : Int)) from rfl)
  have a3 := (ha.cell 3).trans (show _ = some (.int .i64 ((d x).tt : Int)) from rfl)
  rw [hf] at a2
  rw [ht] at a3
  have cC := (hRB.cell t).trans hcell
  obtain ⟨ub, hub⟩ : ∃ u, cb[o]? = some u := ⟨cb[o], by simp [ho]⟩
  have cB := (hb.cell o).trans hub
  have fB := hb.frozen o
  have hfn' : (f : Int) < n := by omega
  have htn' : (t : Int) < n := by omega
  have hf0 : (0 : Int) ≤ f := by omega
  have ht0 : (0 : Int) ≤ t := by omega
  have hlen' : (0 : Int) < len := by omega
  have hn' : (n : Int) ≤ 4 := by omega
  have HS : Hid (Blk w S cs 51) := hS
  have HR : Hid (Blk w RBf rc 24) := hRB
  have HB : Hid (Blk w b cb 35) := hb
  have HA : Hid (Blk w (A x) (arrCells (d x) x ixx) 34) := ha
  have HL : Hid (Blk w LB lc 52) := hLB
  clear hS hRB hb ha hLB
  go_enter Ybaf.func11, Ybaf.ntmps11
  go_upto_region 0 with fail
  go_quiet (fail)
  go_upto_region 2 with fail
  go_name_world W hW
  have f1 : Frm (fun k => k = b) w W := hW ▸ ((Frm.refl (fun k => k = b) w).drewN _).setCell ⟨b, o, none⟩ _ (fun _ => rfl)
  have B1 : Blk W b (cb.setIfInBounds o (.pointer none)) 35 := hW ▸ (HB.out.drewN _).same o _
  clear hW cL cR a2 a3 cC cB fB
  have S1 := f1.blk HS.out (fun e => n1 e.symm)
  have R1 := f1.blk HR.out (fun e => n3 e.symm)
  have A1 := f1.blk HA.out (fun e => n4 e.symm)
  have L1 := f1.blk HL.out (fun e => n2 e.symm)
  have cL := (S1.cell 134).trans hL
  have cR := (L1.cell f).trans hrow
  have a2 := (A1.cell 2).trans (show _ = some (.int .i64 ((d x).fr : Int)) from rfl)
  have a3 := (A1.cell 3).trans (show _ = some (.int .i64 ((d x).tt : Int)) from rfl)
  rw [hf] at a2
  rw [ht] at a3
  have cC := (R1.cell t).trans hcell
  have fC := R1.frozen t
  have hend : Hid (∀ v q, v = leftOf b o len cap → Left S RBf b o t len cap on cs rc cb w (((W.setCell ⟨RBf, t, none⟩ v).drewN q).setCell ⟨S, 133, none⟩ (.int .i64 ((on : Int) - 1)))) := fun v q hv => by
    have f2 : Frm (fun k => k = RBf) W ((W.setCell ⟨RBf, t, none⟩ v).drewN q) := ((Frm.refl (fun k => k = RBf) W).setCell ⟨RBf, t, none⟩ _ (fun _ => rfl)).drewN q
    have f3 : Frm (fun k => k = S) ((W.setCell ⟨RBf, t, none⟩ v).drewN q) (((W.setCell ⟨RBf, t, none⟩ v).drewN q).setCell ⟨S, 133, none⟩ (.int .i64 ((on : Int) - 1))) := (Frm.refl (fun k => k = S) _).setCell ⟨S, 133, none⟩ _ (fun _ => rfl)
    subst hv
    refine ⟨(f2.blk S1 (fun e => n5 e.symm)).same 133 _, f3.blk ((R1.same t _).drewN q) n5, f3.blk (f2.blk B1 n3) n1, ?_⟩
    exact ((f1.mono (fun _ _ e => .inr (.inr e))).trans f2 (fun _ _ e => .inr (.inl e))).trans f3 (fun _ _ e => .inl e)
  have c133 := (S1.cell 133).trans hon
  have f133 := S1.frozen 133
  have hon0' : (0 : Int) < on := by omega
  have hon1' : (on : Int) ≤ 256 := by omega
  clear S1 R1 A1 L1 B1 f1
  by_cases h1 : len = 1
  · have h1' : (len : Int) = 1 := by omega
    go_upto_region 3 with fail
    go_region
    all_goals
      go_wp2_with fail
      go_end0
      exact ⟨rfl, hend.out _ 1 (by unfold leftOf; rw [if_pos h1])⟩
  · have h1' : ¬ (len : Int) = 1 := by omega
    have h2' : (1 : Int) ≤ len := by omega
    have hc1 : ¬ cap = 1 := by omega
    have hc2 : (1 : Int) ≤ cap := by omega
    have hc3 : (len : Int) ≤ cap := by omega
    go_upto_region 4 with fail
    go_region
    all_goals
      go_wp2_with fail
      go_end0
      exact ⟨rfl, hend.out _ 1 (by unfold leftOf; rw [if_neg h1])⟩

/-! ### The links in memory -/
/-- A link: the slice of its pointers, oldest first. -/
structure LinkAt (w : World) (B : Nat) (A : Nat → Nat) (v : Value) (l : List Nat) : Prop where
  ex : ∃ p c, v = .slice p l.length c ∧ l.length ≤ c ∧ c ≤ 9223372036854775807 ∧ (0 < l.length → ∃ b o cb, p = some ⟨b, o, none⟩ ∧ Blk w b cb 35 ∧ ∀ i x, l[i]? = some x → cb[o + i]? = some (ptr A x))
  low : ∀ k, v.ownBlock = some k → B ≤ k ∧ ∃ cb, Blk w k cb 35
theorem LinkAt.frm {P : Nat → Prop} {w w' : World} {B : Nat} {A : Nat → Nat} {v : Value} {l : List Nat} (h : LinkAt w B A v l) (hf : Frm P w w') (hP : ∀ k, v.ownBlock = some k → ¬ P k) : LinkAt w' B A v l := by
  obtain ⟨⟨p, c, rfl, h1, h2, h3⟩, h4⟩ := h
  refine ⟨⟨p, c, rfl, h1, h2, fun hl => ?_⟩, fun k hk => ⟨(h4 k hk).1, by obtain ⟨_, cb, hb⟩ := h4 k hk; exact ⟨cb, hf.blk hb (hP k hk)⟩⟩⟩
  obtain ⟨b, o, cb, rfl, h5, h6⟩ := h3 hl
  exact ⟨b, o, cb, rfl, hf.blk h5 (hP b rfl), h6⟩

/-- All links. -/
structure Links (w : World) (B n : Nat) (A : Nat → Nat) (LB : Nat) (RB : Nat → Nat) (lc : Array Value) (rc : Nat → Array Value) (lv : Nat → Nat → Value) (ls : Nat → Nat → List Nat) : Prop where
  lb : Blk w LB lc 52
  lbl : LB < B
  row : ∀ f, f < n → lc[f]? = some (.slice (some ⟨RB f, 0, none⟩) n n)
  rb : ∀ f, f < n → Blk w (RB f) (rc f) 24
  rbl : ∀ f, f < n → RB f < B
  rinj : ∀ f g, f < n → g < n → RB f = RB g → f = g
  cell : ∀ f t, f < n → t < n → (rc f)[t]? = some (lv f t)
  at_ : ∀ f t, f < n → t < n → LinkAt w B A (lv f t) (ls f t)
  apart : ∀ f t g u, f < n → t < n → g < n → u < n → ¬ (f = g ∧ t = u) → ∀ k, (lv f t).ownBlock = some k → (lv g u).ownBlock ≠ some k

theorem Links.frm {P : Nat → Prop} {w w' : World} {B n : Nat} {A : Nat → Nat} {LB : Nat} {RB : Nat → Nat} {lc : Array Value} {rc : Nat → Array Value} {lv : Nat → Nat → Value} {ls : Nat → Nat → List Nat} (h : Links w B n A LB RB lc rc lv ls) (hf : Frm P w w') (hL : ¬ P LB) (hR : ∀ f, f < n → ¬ P (RB f)) (hv : ∀ f t, f < n → t < n → ∀ k, (lv f t).ownBlock = some k → ¬ P k) : Links w' B n A LB RB lc rc lv ls :=
  { h with lb := hf.blk h.lb hL, rb := fun f hfn => hf.blk (h.rb f hfn) (hR f hfn), at_ := fun f t h1 h2 => (h.at_ f t h1 h2).frm hf (hv f t h1 h2) }

def upd2 {α : Type} (g : Nat → Nat → α) (f t : Nat) (v : α) : Nat → Nat → α := fun a b => if a = f ∧ b = t then v else g a b

set_option maxHeartbeats 1000000 in
theorem Links.left {w w' : World} {B n : Nat} {A : Nat → Nat} {LB : Nat} {RB : Nat → Nat} {lc : Array Value} {rc : Nat → Array Value} {lv : Nat → Nat → Value} {ls : Nat → Nat → List Nat} (h : Links w B n A LB RB lc rc lv ls) {S f t b o cap on : Nat} {cs cb : Array Value} (hS : S < B) (hSL : S ≠ LB) (hSR : ∀ g, g < n → S ≠ RB g) (hf : f < n) (ht : t < n) (hn0 : 0 < (ls f t).length)
    (hv : lv f t = .slice (some ⟨b, o, none⟩) (ls f t).length cap) (hc : (ls f t).length ≤ cap) (hcm : cap ≤ 9223372036854775807) (hcb : ∀ i x, (ls f t)[i]? = some x → cb[o + i]? = some (ptr A x)) (hL : Left S (RB f) b o t (ls f t).length cap on cs (rc f) cb w w') :
    Links w' B n A LB RB lc (fun g => if g = f then (rc f).setIfInBounds t (leftOf b o (ls f t).length cap) else rc g) (upd2 lv f t (leftOf b o (ls f t).length cap)) (upd2 ls f t (ls f t).tail) := by
  have hbB : B ≤ b := ((h.at_ f t hf ht).low b (by rw [hv]; rfl)).1
  have hown : (leftOf b o (ls f t).length cap).ownBlock = some b := by
    unfold leftOf
    split <;> rfl
  have hlbl := h.lbl
  have htz : t < (rc f).size := (Array.getElem?_eq_some_iff.1 (h.cell f t hf ht)).1
  refine ⟨hL.frm.blk h.lb (fun e => ?_), h.lbl, h.row, fun g hg => ?_, h.rbl, h.rinj, fun g u hg hu => ?_, fun g u hg hu => ?_, fun g u g' u' hg hu hg' hu' hne k hk hk' => ?_⟩
  · have := h.rbl f hf
    rcases e with e | e | e
    · exact hSL e.symm
    · have h1 := h.lb
      have h2 := h.rb f hf
      rw [e] at h1
      exact (blk_ne h1 h2 (by decide)) rfl
    · omega
  · by_cases e : g = f
    · subst e
      rw [if_pos rfl]
      exact hL.rB
    · rw [if_neg e]
      refine hL.frm.blk (h.rb g hg) (fun e' => ?_)
      have := h.rbl g hg
      rcases e' with e' | e' | e'
      · exact hSR g hg e'.symm
      · exact e (h.rinj g f hg hf e')
      · omega
  · unfold upd2
    by_cases e : g = f
    · subst e
      rw [if_pos rfl]
      by_cases e2 : u = t
      · subst e2
        rw [if_pos ⟨rfl, rfl⟩, Array.getElem?_setIfInBounds_self_of_lt htz]
      · rw [if_neg (fun hh => e2 hh.2), Array.getElem?_setIfInBounds_ne (Ne.symm e2)]
        exact h.cell g u hg hu
    · rw [if_neg e, if_neg (fun hh => e hh.1)]
      exact h.cell g u hg hu
  · unfold upd2
    by_cases e : g = f ∧ u = t
    · rw [if_pos e, if_pos e]
      refine ⟨?_, fun k hk => ?_⟩
      · unfold leftOf
        by_cases h1 : (ls f t).length = 1
        · rw [if_pos h1]
          have ht0 : (ls f t).tail.length = 0 := by rw [List.length_tail]; omega
          exact ⟨_, cap, by rw [ht0], by omega, hcm, fun hl => by omega⟩
        · rw [if_neg h1]
          refine ⟨_, cap - 1, by rw [List.length_tail], by rw [List.length_tail]; omega, by omega, fun _ => ⟨b, o + 1, _, rfl, hL.bB, fun i x hx => ?_⟩⟩
          rw [List.getElem?_tail] at hx
          rw [Array.getElem?_setIfInBounds_ne (by omega), Nat.add_assoc, Nat.add_comm 1 i]
          exact hcb (i + 1) x hx
      · rw [hown] at hk
        have : b = k := Option.some.inj hk
        subst this
        exact ⟨hbB, _, hL.bB⟩
    · rw [if_neg e, if_neg e]
      refine (h.at_ g u hg hu).frm hL.frm (fun k hk e' => ?_)
      have := ((h.at_ g u hg hu).low k hk).1
      rcases e' with e' | e' | e'
      · omega
      · have := h.rbl f hf
        omega
      · exact h.apart g u f t hg hu hf ht e k hk (by rw [hv, e']; rfl)
  · have hb0 : ∀ a c, (upd2 lv f t (leftOf b o (ls f t).length cap) a c).ownBlock = (lv a c).ownBlock := fun a c => by
      unfold upd2
      by_cases e : a = f ∧ c = t
      · rw [if_pos e, hown, e.1, e.2, hv]
        rfl
      · rw [if_neg e]
    rw [hb0] at hk hk'
    exact h.apart g u g' u' hg hu hg' hu' hne k hk hk'
end Go.Proofs.YbulkaryoFmt
