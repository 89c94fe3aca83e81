/-
  The links while they are built: rows that are appended to.
-/
import Derived.Test.YbulkaryoFmtGrow
namespace Go.Proofs.YbulkaryoFmt
open Go.RowKit

structure BL (w : World) (B n : Nat) (A : Nat → Nat) (LB : Nat) (RB : Nat → Nat) (lc : Array Value) (rc : Nat → Array Value) (lv : Nat → Nat → Value) (ls : Nat → Nat → List Nat) : Prop where
  lb : Blk w LB lc 52
  lbl : LB < B
  row : ∀ f, f < n → lc[f]? = some (.slice (some ⟨RB f, 0, none⟩) n n)
  rb : ∀ f, f < n → Blk w (RB f) (rc f) 24
  rbl : ∀ f, f < n → RB f < B
  rinj : ∀ f g, f < n → g < n → RB f = RB g → f = g
  cell : ∀ f t, f < n → t < n → (rc f)[t]? = some (lv f t)
  own : ∀ f t, f < n → t < n → w.ownsRow B 35 1 (lv f t) (ls f t).length ((ls f t).map (ptr A))
  apart : ∀ f t g u, f < n → t < n → g < n → u < n → ¬ (f = g ∧ t = u) → ∀ k, (lv f t).ownBlock = some k → (lv g u).ownBlock ≠ some k
  short : ∀ f t, f < n → t < n → (ls f t).length ≤ 256

theorem BL.frm {P : Nat → Prop} {w w' : World} {B n : Nat} {A : Nat → Nat} {LB : Nat} {RB : Nat → Nat} {lc : Array Value} {rc : Nat → Array Value} {lv : Nat → Nat → Value} {ls : Nat → Nat → List Nat} (h : BL w B n A LB RB lc rc lv ls) (hf : Frm P w w') (hL : ¬ P LB) (hR : ∀ f, f < n → ¬ P (RB f)) (hv : ∀ f t, f < n → t < n → ∀ k, (lv f t).ownBlock = some k → ¬ P k) : BL w' B n A LB RB lc rc lv ls :=
  { h with lb := hf.blk h.lb hL, rb := fun f hfn => hf.blk (h.rb f hfn) (hR f hfn), own := fun f t h1 h2 => hf.owns (h.own f t h1 h2) (hv f t h1 h2) }
theorem BL.ext {w : World} {B n k nb : Nat} {A : Nat → Nat} {LB : Nat} {RB : Nat → Nat} {lc : Array Value} {rc : Nat → Array Value} {lv : Nat → Nat → Value} {ls : Nat → Nat → List Nat} (h : BL w B n A LB RB lc rc lv ls) (hm : ∀ f t, f < n → t < n → ∀ x ∈ ls f t, x < k) : BL w B n (ext A k nb) LB RB lc rc lv ls :=
  { h with own := fun f t h1 h2 => by rw [map_ext (hm f t h1 h2)]; exact h.own f t h1 h2 }

/-- One more on the link from f to t. -/
theorem BL.put {w w' : World} {B n : Nat} {A : Nat → Nat} {LB : Nat} {RB : Nat → Nat} {lc : Array Value} {rc : Nat → Array Value} {lv : Nat → Nat → Value} {ls : Nat → Nat → List Nat} (h : BL w B n A LB RB lc rc lv ls) {f t x : Nat} {v1 : Value} (hf : f < n) (ht : t < n) (hs : (ls f t).length < 256) (hB : Blk w' (RB f) ((rc f).setIfInBounds t v1) 24) (ho : w'.ownsRow B 35 1 v1 ((ls f t).length + 1) ((ls f t ++ [x]).map (ptr A)))
    (hfr : Frm (fun k => k = RB f ∨ (lv f t).ownBlock = some k) w w') (hat : v1.ownBlock = (lv f t).ownBlock ∨ ∃ k, v1.ownBlock = some k ∧ w.heap.size ≤ k) :
    BL w' B n A LB RB lc (fun g => if g = f then (rc f).setIfInBounds t v1 else rc g) (upd2 lv f t v1) (upd2 ls f t (ls f t ++ [x])) := by
  have htz : t < (rc f).size := (Array.getElem?_eq_some_iff.1 (h.cell f t hf ht)).1
  have hrowB : ∀ k, (lv f t).ownBlock = some k → B ≤ k ∧ k < w.heap.size := fun k hk => (h.own f t hf ht).lt k hk
  have hlbl := h.lbl
  refine ⟨hfr.blk h.lb (fun e => ?_), h.lbl, h.row, fun g hg => ?_, h.rbl, h.rinj, fun g u hg hu => ?_, fun g u hg hu => ?_, fun g u g' u' hg hu hg' hu' hne k hk hk' => ?_, fun g u hg hu => ?_⟩
  · rcases e with e | e
    · have h1 := h.lb
      have h2 := h.rb f hf
      rw [e] at h1
      exact (blk_ne h1 h2 (by decide)) rfl
    · have := (hrowB _ e).1
      omega
  · by_cases e : g = f
    · subst e
      rw [if_pos rfl]
      exact hB
    · rw [if_neg e]
      refine hfr.blk (h.rb g hg) (fun e' => ?_)
      have := h.rbl g hg
      rcases e' with e' | e'
      · exact e (h.rinj g f hg hf e')
      · have := (hrowB _ e').1
        omega
  · unfold upd2
    by_cases e : g = f
    · subst e
      rw [if_pos rfl]
      by_cases e2 : u = t
      · subst e2
        rw [if_pos ⟨rfl, rfl⟩, Array.getElem?_setIfInBounds_self_of_lt htz]
      · rw [if_neg (fun hh => e2 hh.2), Array.getElem?_setIfInBounds_ne (Ne.symm e2)]
        exact h.cell g u hg hu
    · rw [if_neg e, if_neg (fun hh => e hh.1)]
      exact h.cell g u hg hu
  · unfold upd2
    by_cases e : g = f ∧ u = t
    · rw [if_pos e, if_pos e]
      have hl : (ls f t ++ [x]).length = (ls f t).length + 1 := by simp
      rw [hl]
      exact ho
    · rw [if_neg e, if_neg e]
      refine hfr.owns (h.own g u hg hu) (fun k hk e' => ?_)
      have hkB := ((h.own g u hg hu).lt k hk).1
      rcases e' with e' | e'
      · have := h.rbl f hf
        omega
      · exact h.apart g u f t hg hu hf ht e k hk e'
  · have key1 : ∀ g u, g < n → u < n → ¬ (g = f ∧ u = t) → ∀ k, v1.ownBlock = some k → (lv g u).ownBlock ≠ some k := fun g u hg hu e k hk hk' => by
      rcases hat with hat | ⟨q, hq, hqs⟩
      · rw [hat] at hk
        exact h.apart g u f t hg hu hf ht e k hk' hk
      · have : q = k := Option.some.inj (hq.symm.trans hk)
        have := ((h.own g u hg hu).lt k hk').2
        omega
    unfold upd2 at hk hk'
    by_cases e1 : g = f ∧ u = t
    · rw [if_pos e1] at hk
      by_cases e2 : g' = f ∧ u' = t
      · exact hne ⟨e1.1.trans e2.1.symm, e1.2.trans e2.2.symm⟩
      · rw [if_neg e2] at hk'
        exact key1 g' u' hg' hu' e2 k hk hk'
    · rw [if_neg e1] at hk
      by_cases e2 : g' = f ∧ u' = t
      · rw [if_pos e2] at hk'
        exact key1 g u hg hu e1 k hk' hk
      · rw [if_neg e2] at hk'
        exact h.apart g u g' u' hg hu hg' hu' hne k hk hk'
  · unfold upd2
    by_cases e : g = f ∧ u = t
    · rw [if_pos e]
      simp
      omega
    · rw [if_neg e]
      exact h.short g u hg hu

/-- Built, they are links. -/
theorem BL.links {w : World} {B n : Nat} {A : Nat → Nat} {LB : Nat} {RB : Nat → Nat} {lc : Array Value} {rc : Nat → Array Value} {lv : Nat → Nat → Value} {ls : Nat → Nat → List Nat} (h : BL w B n A LB RB lc rc lv ls) : Links w B n A LB RB lc rc lv ls := by
  refine ⟨h.lb, h.lbl, h.row, h.rb, h.rbl, h.rinj, h.cell, fun f t hf ht => ?_, h.apart⟩
  have ho := h.own f t hf ht
  obtain ⟨p, c, e, h1, h1m, _⟩ := owns_form ho
  refine ⟨⟨p, c, e, h1, Nat.le_trans h1m (by decide), fun hl => ?_⟩, fun k hk => ⟨(ho.lt k hk).1, ?_⟩⟩
  · rcases ho.2 with ⟨_, h0⟩ | ⟨g, cap, cur, e2, _, hg, _, _, _, htake⟩
    · omega
    · rw [e] at e2
      injection e2 with e2 _ _
      refine ⟨g, 0, cur, e2, hg, fun i x hx => ?_⟩
      have hil : i < (ls f t).length := (List.getElem?_eq_some_iff.1 hx).1
      have h3 : (cur.toList.take ((ls f t).length * 1))[i]? = some (ptr A x) := by
        rw [htake, List.getElem?_map, hx]
        rfl
      rw [List.getElem?_take_of_lt (by omega)] at h3
      rw [Nat.zero_add]
      simpa using h3
  · rcases ho.2 with ⟨e2, _⟩ | ⟨g, cap, cur, e2, _, hg, _⟩
    · rw [e2] at hk
      cases hk
    · rw [e2] at hk
      have : g = k := Option.some.inj hk
      subst this
      exact ⟨cur, hg⟩
end Go.Proofs.YbulkaryoFmt
