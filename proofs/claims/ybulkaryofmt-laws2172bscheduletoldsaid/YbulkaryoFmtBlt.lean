/-
  What zzs2172bbuild lays: one arrival more; at the end, the simulation.
-/
import Derived.Test.YbulkaryoFmtEmpty
namespace Go.Proofs.YbulkaryoFmt
open Go.RowKit

/-- Bytes that came in. -/
structure ByteArg (w : World) (B : Nat) (v : Value) (len : Nat) (xs : Nat → Nat) : Prop where
  ex : ∃ p c, v = .slice p len c ∧ (0 < len → ∃ b o, p = some ⟨b, o, none⟩ ∧ b < B ∧ ∀ i, i < len → w.cell? ⟨b, o + i, none⟩ = some (.int .u8 (xs i)) ∧ xs i < 256)
/-- Booleans that came in. -/
structure BoolArg (w : World) (B : Nat) (v : Value) (len : Nat) (xs : Nat → Bool) : Prop where
  ex : ∃ p c, v = .slice p len c ∧ (0 < len → ∃ b o, p = some ⟨b, o, none⟩ ∧ b < B ∧ ∀ i, i < len → w.cell? ⟨b, o + i, none⟩ = some (.bool (xs i)))

/-- What loop 2 has laid behind k arrivals. -/
structure Blt (b0 : Nat) (w00 w03 : World) (w : World) (B n k : Nat) (A : Nat → Nat) (d : Nat → Arr) (S : Nat) (cs0 cs : Array Value) (hs : Nat → List Nat) (ix : Nat → Nat) (F0 F1 : Nat) (LB : Nat) (RB : Nat → Nat) (lc : Array Value) (rc : Nat → Array Value) (lv : Nat → Nat → Value) (ls : Nat → Nat → List Nat) (allv : Value) (TB : Nat) (tc : Array Value) : Prop where
  q : Queue w B k A d S cs hs ix F0 F1 true
  l : BL w B n A LB RB lc rc lv ls
  csK : ∀ j, j < 3 ∨ 133 ≤ j → cs[j]? = cs0[j]?
  cross : ∀ i, i < 128 → ∀ v, cs[3 + i]? = some v → ∀ f t, f < n → t < n → ∀ q, v.ownBlock = some q → (lv f t).ownBlock ≠ some q
  all : w.ownsRow B 35 1 allv k ((List.range k).map (ptr A))
  allS : ∀ i, i < 128 → ∀ v, cs[3 + i]? = some v → ∀ q, allv.ownBlock = some q → v.ownBlock ≠ some q
  allL : ∀ f t, f < n → t < n → ∀ q, allv.ownBlock = some q → (lv f t).ownBlock ≠ some q
  isIn : ∀ x, x < k → x ∈ hs (slotOf (d x).at_)
  lsE : ∀ f t, f < n → t < n → ls f t = onLink k d (fun _ => true) f t
  fits : ∀ x, x < k → (d x).at_ ≤ 10000000 ∧ (d x).fr < n ∧ (d x).tt < n ∧ (d x).fr ≠ (d x).tt
  tb : Blk w TB tc 28
  tbl : TB < B
  tsz : tc.size = n * n
  tval : ∀ i, i < n * n → ∃ t : Nat, tc[i]? = some (.int .i64 t) ∧ t ≤ 10000000
  base : 0 < b0 ∧ b0 ≤ S ∧ b0 ≤ LB ∧ b0 ≤ TB ∧ (∀ f, f < n → b0 ≤ RB f) ∧ (∀ x, x < k → B ≤ A x) ∧ b0 ≤ B ∧ B ≤ w.heap.size
  frm : Frm (fun j => b0 ≤ j) w00 w
  frm3 : Frm (fun j => j = TB ∨ j = S ∨ (∃ f, f < n ∧ j = RB f) ∨ B ≤ j) w03 w

structure BltX (b0 : Nat) (w00 w03 : World) (B n k S : Nat) (cs0 : Array Value) (LB : Nat) (RB : Nat → Nat) (lc : Array Value) (TB : Nat) (allv : Value) (w : World) : Prop where
  ex : ∃ A d cs hs ix F0 F1 rc lv ls tc, Blt b0 w00 w03 w B n k A d S cs0 cs hs ix F0 F1 LB RB lc rc lv ls allv TB tc


theorem onLink_grow {k : Nat} {d : Nat → Arr} {e : Arr} (f t : Nat) : onLink (k + 1) (ext d k e) (fun _ => true) f t = onLink k d (fun _ => true) f t ++ (if e.fr = f ∧ e.tt = t then [k] else []) := by
  unfold onLink
  rw [List.range_succ, List.filter_append]
  congr 1
  · apply List.filter_congr
    intro x hx
    have := List.mem_range.1 hx
    rw [ext_old (by omega)]
  · by_cases h : e.fr = f ∧ e.tt = t
    · rw [if_pos h, List.filter_cons_of_pos (by rw [ext_new]; simp [h.1, h.2])]
      rfl
    · rw [if_neg h, List.filter_cons_of_neg (by rw [ext_new]; simp; exact fun h1 h2 => h ⟨h1, h2⟩)]
      rfl

section
variable {b0 : Nat} {w00 w03 w W4 w6 w7 w8 : World} {B n k : Nat} {A : Nat → Nat} {d : Nat → Arr} {S : Nat} {cs0 cs : Array Value} {hs : Nat → List Nat} {ix : Nat → Nat} {F0 F1 : Nat} {LB : Nat} {RB : Nat → Nat} {lc : Array Value} {rc : Nat → Array Value} {lv : Nat → Nat → Value} {ls : Nat → Nat → List Nat} {allv : Value} {TB : Nat} {tc : Array Value}

/-- All the arrivals' row behind the push. -/
theorem Blt.all6 (H : Blt b0 w00 w03 w B n k A d S cs0 cs hs ix F0 F1 LB RB lc rc lv ls allv TB tc) (f4 : Frm (fun j => j = TB) w W4) {i : Nat} {v6 : Value} (hi : i < 128) (r4 : cs[3 + i]? = some v6)
    (fr46 : Frm (fun j => v6.ownBlock = some j ∨ j = S ∨ ∃ x, x < k + 1 ∧ j = ext A k W4.heap.size x) W4 w6) : w6.ownsRow B 35 1 allv k ((List.range k).map (ptr A)) := by
  have h4 := f4.owns H.all (fun q hq e => owns_blk H.all H.tb (by decide) (by rw [← e]; exact hq))
  refine fr46.owns h4 (fun q hq e => ?_)
  rcases e with e | e | ⟨x, hx, e⟩
  · exact H.allS i hi v6 r4 q hq e
  · have := (H.all.lt q hq).1
    have := H.q.low
    omega
  · by_cases hxk : x = k
    · rw [hxk, ext_new] at e
      have := (h4.lt q hq).2
      omega
    · rw [ext_old hxk] at e
      exact owns_blk H.all (H.q.arr.blk x (by omega)) (by decide) (by rw [← e]; exact hq)

set_option maxHeartbeats 2000000 in
/-- The round's end: one arrival more. -/
theorem Blt.next (H : Blt b0 w00 w03 w B n k A d S cs0 cs hs ix F0 F1 LB RB lc rc lv ls allv TB tc) (f4 : Frm (fun j => j = TB) w W4) {tc' : Array Value} (tb4 : Blk W4 TB tc' 28) (tsz : tc'.size = n * n) (tval : ∀ i, i < n * n → ∃ t : Nat, tc'[i]? = some (.int .i64 t) ∧ t ≤ 10000000)
    {t1 f t : Nat} {cut : Bool} (ht1 : t1 ≤ 10000000) (hf : f < n) (ht : t < n) (hft : f ≠ t) {cs6 : Array Value} {h6 : List Nat} {ix6 : Nat → Nat} {G0 G1 : Nat} {v6 : Value} {bb : Nat} {i : Nat} (hie : i = slotOf (ext d k ⟨t1, f, t, cut⟩ k).at_)
    (Q6 : Queue w6 B (k + 1) (ext A k W4.heap.size) (ext d k ⟨t1, f, t, cut⟩) S cs6 (upd hs i h6) ix6 G0 G1 true) (r5 : ∀ y, y ∈ h6 ↔ y ∈ hs i ∨ y = k) (r3 : ∀ l, l < 3 ∨ 133 ≤ l → cs6[l]? = cs[l]?) (r7 : ∀ l, l < 128 → l ≠ i → cs6[3 + l]? = cs[3 + l]?) (r4 : cs[3 + i]? = some v6) (r9 : ∀ u, cs6[3 + i]? = some u → u.ownBlock = some bb) (r8 : v6.ownBlock = some bb ∨ W4.heap.size ≤ bb)
    (fr46 : Frm (fun j => v6.ownBlock = some j ∨ j = S ∨ ∃ x, x < k + 1 ∧ j = ext A k W4.heap.size x) W4 w6)
    {v1 : Value} (hBL7 : BL w7 B n (ext A k W4.heap.size) LB RB lc (fun g => if g = f then (rc f).setIfInBounds t v1 else rc g) (upd2 lv f t v1) (upd2 ls f t (ls f t ++ [k]))) (fr7 : Frm (fun q => q = RB f ∨ (lv f t).ownBlock = some q) w6 w7) (hat7 : v1.ownBlock = (lv f t).ownBlock ∨ ∃ q, v1.ownBlock = some q ∧ w6.heap.size ≤ q)
    {all8 : Value} (own8 : w8.ownsRow B 35 1 all8 (k + 1) ((List.range k).map (ptr A) ++ [.pointer (some ⟨W4.heap.size, 0, none⟩)])) (fr8 : Frm (fun q => allv.ownBlock = some q) w7 w8) (hat8 : all8.ownBlock = allv.ownBlock ∨ ∃ q, all8.ownBlock = some q ∧ w7.heap.size ≤ q) :
    BltX b0 w00 w03 B n (k + 1) S cs0 LB RB lc TB all8 w8 := by
  obtain ⟨hb0, hbS, hbL, hbT, hbR, hbA, hbB, hbz⟩ := H.base
  have hi : i < 128 := by rw [hie]; exact slotOf_lt _
  have s4 := f4.size
  have s6 := fr46.size
  have s7 := fr7.size
  have s8 := fr8.size
  have hSB := H.q.low
  have hLBl := H.l.lbl
  have hRBl := H.l.rbl
  have hTBl := H.tbl
  have lvB : ∀ g u, g < n → u < n → ∀ q, (lv g u).ownBlock = some q → B ≤ q ∧ q < w.heap.size := fun g u hg hu q hq => (H.l.own g u hg hu).lt q hq
  have alB : ∀ q, allv.ownBlock = some q → B ≤ q ∧ q < w.heap.size := fun q hq => H.all.lt q hq
  have v6B : ∀ q, v6.ownBlock = some q → B ≤ q := fun q hq => by
    obtain ⟨v', h1, h2⟩ := H.q.slot i hi
    rw [r4] at h1
    have e' := Option.some.inj h1
    subst e'
    exact (h2.lt q hq).1
  have sB6 : ∀ l, l < 128 → ∀ v, cs6[3 + l]? = some v → ∀ q, v.ownBlock = some q → B ≤ q ∧ q < w6.heap.size := fun l hl v hv q hq => by
    obtain ⟨v', h1, h2⟩ := Q6.slot l hl
    rw [hv] at h1
    have e' := Option.some.inj h1
    subst e'
    exact h2.lt q hq
  have cross6 : ∀ l, l < 128 → ∀ v, cs6[3 + l]? = some v → ∀ g u, g < n → u < n → ∀ q, v.ownBlock = some q → (lv g u).ownBlock ≠ some q := fun l hl v hv g u hg hu q hq e => by
    by_cases hli : l = i
    · subst hli
      have hqb : bb = q := Option.some.inj ((r9 v hv).symm.trans hq)
      subst hqb
      rcases r8 with r8 | r8
      · exact H.cross l hl v6 r4 g u hg hu _ r8 e
      · have := (lvB g u hg hu _ e).2
        omega
    · exact H.cross l hl v ((r7 l hl hli).symm.trans hv) g u hg hu q hq e
  have allS6 : ∀ l, l < 128 → ∀ v, cs6[3 + l]? = some v → ∀ q, allv.ownBlock = some q → v.ownBlock ≠ some q := fun l hl v hv q hq e => by
    by_cases hli : l = i
    · subst hli
      have hqb : bb = q := Option.some.inj ((r9 v hv).symm.trans e)
      subst hqb
      rcases r8 with r8 | r8
      · exact H.allS l hl v6 r4 _ hq r8
      · have := (alB _ hq).2
        omega
    · exact H.allS l hl v ((r7 l hl hli).symm.trans hv) q hq e
  have cross7 : ∀ l, l < 128 → ∀ v, cs6[3 + l]? = some v → ∀ g u, g < n → u < n → ∀ q, v.ownBlock = some q → (upd2 lv f t v1 g u).ownBlock ≠ some q := fun l hl v hv g u hg hu q hq e => by
    unfold upd2 at e
    by_cases hgu : g = f ∧ u = t
    · rw [if_pos hgu] at e
      rcases hat7 with hat | ⟨q', hq', hqs⟩
      · rw [hat] at e
        exact cross6 l hl v hv f t hf ht q hq e
      · have : q' = q := Option.some.inj (hq'.symm.trans e)
        have := (sB6 l hl v hv q hq).2
        omega
    · rw [if_neg hgu] at e
      exact cross6 l hl v hv g u hg hu q hq e
  have allL7 : ∀ g u, g < n → u < n → ∀ q, allv.ownBlock = some q → (upd2 lv f t v1 g u).ownBlock ≠ some q := fun g u hg hu q hq e => by
    unfold upd2 at e
    by_cases hgu : g = f ∧ u = t
    · rw [if_pos hgu] at e
      rcases hat7 with hat | ⟨q', hq', hqs⟩
      · rw [hat] at e
        exact H.allL f t hf ht q hq e
      · have : q' = q := Option.some.inj (hq'.symm.trans e)
        have := (alB q hq).2
        omega
    · rw [if_neg hgu] at e
      exact H.allL g u hg hu q hq e
  have rb6 : Blk w6 (RB f) (rc f) 24 := by
    have h4 := f4.blk (H.l.rb f hf) (blk_ne (H.l.rb f hf) H.tb (by decide))
    refine fr46.blk h4 (fun e => ?_)
    rcases e with e | e | ⟨x, hx, e⟩
    · have := v6B _ e
      have := hRBl f hf
      omega
    · exact blk_ne (H.l.rb f hf) H.q.blk (by decide) e
    · by_cases hxk : x = k
      · rw [hxk, ext_new] at e
        have := h4.lt
        omega
      · rw [ext_old hxk] at e
        exact blk_ne (H.l.rb f hf) (H.q.arr.blk x (by omega)) (by decide) e
  have Q7 : Queue w7 B (k + 1) (ext A k W4.heap.size) (ext d k ⟨t1, f, t, cut⟩) S cs6 (upd hs i h6) ix6 G0 G1 true := by
    refine Q6.move (fr7.blk Q6.blk (fun e => ?_)) (fun _ _ _ => rfl) fr7 (fun y hy e => ?_) (fun l hl v hv q hq e => ?_)
    · rcases e with e | e
      · exact blk_ne Q6.blk rb6 (by decide) e
      · have := (lvB f t hf ht _ e).1
        omega
    · rcases e with e | e
      · exact blk_ne (Q6.arr.blk y hy) rb6 (by decide) e
      · have h4 := fr46.owns (f4.owns (H.l.own f t hf ht) (fun q hq e => owns_blk (H.l.own f t hf ht) H.tb (by decide) (by rw [← e]; exact hq))) (fun q hq e => ?_)
        · exact owns_blk h4 (Q6.arr.blk y hy) (by decide) e
        · rcases e with e | e | ⟨x, hx, e⟩
          · exact H.cross i hi v6 r4 f t hf ht q e hq
          · have := (lvB f t hf ht q hq).1
            omega
          · by_cases hxk : x = k
            · rw [hxk, ext_new] at e
              have := (lvB f t hf ht q hq).2
              omega
            · rw [ext_old hxk] at e
              exact owns_blk (H.l.own f t hf ht) (H.q.arr.blk x (by omega)) (by decide) (by rw [← e]; exact hq)
    · rcases e with e | e
      · have := (sB6 l hl v hv q hq).1
        have := hRBl f hf
        omega
      · exact cross6 l hl v hv f t hf ht q hq e
  have alRow7 : w7.ownsRow B 35 1 allv k ((List.range k).map (ptr A)) := fr7.owns (H.all6 f4 hi r4 fr46) (fun q hq e => by
    rcases e with e | e
    · have := (alB q hq).1
      have := hRBl f hf
      omega
    · exact H.allL f t hf ht q hq e)
  have Q8 : Queue w8 B (k + 1) (ext A k W4.heap.size) (ext d k ⟨t1, f, t, cut⟩) S cs6 (upd hs i h6) ix6 G0 G1 true := by
    refine Q7.move (fr8.blk Q7.blk (fun e => ?_)) (fun _ _ _ => rfl) fr8 (fun y hy e => ?_) (fun l hl v hv q hq e => ?_)
    · have := (alB _ e).1
      omega
    · exact owns_blk alRow7 (Q7.arr.blk y hy) (by decide) e
    · exact allS6 l hl v hv q e hq
  have L8 := hBL7.frm fr8 (fun e => by have := (alB _ e).1; omega) (fun g hg e => by have := (alB _ e).1; have := hRBl g hg; omega) (fun g u hg hu q hq e => allL7 g u hg hu q e hq)
  have tb6 : Blk w6 TB tc' 28 := fr46.blk tb4 (fun e => by
    rcases e with e | e | ⟨x, hx, e⟩
    · have := v6B _ e
      omega
    · exact blk_ne H.tb H.q.blk (by decide) e
    · by_cases hxk : x = k
      · rw [hxk, ext_new] at e
        have := tb4.lt
        omega
      · rw [ext_old hxk] at e
        exact blk_ne H.tb (H.q.arr.blk x (by omega)) (by decide) e)
  have tb8 : Blk w8 TB tc' 28 := fr8.blk (fr7.blk tb6 (fun e => by
    rcases e with e | e
    · exact blk_ne tb6 rb6 (by decide) e
    · have := (lvB f t hf ht _ e).1
      omega)) (fun e => by have := (alB _ e).1; omega)
  have fr48 : Frm (fun j => j = S ∨ (∃ f, f < n ∧ j = RB f) ∨ B ≤ j) W4 w8 := by
    refine ((fr46.mono (fun j _ e => ?_)).trans fr7 (fun j _ e => ?_)).trans fr8 (fun j _ e => ?_)
    · rcases e with e | e | ⟨x, hx, e⟩
      · exact .inr (.inr (v6B _ e))
      · exact .inl e
      · refine .inr (.inr ?_)
        by_cases hxk : x = k
        · rw [hxk, ext_new] at e
          omega
        · rw [ext_old hxk] at e
          have := hbA x (by omega)
          omega
    · rcases e with e | e
      · exact .inr (.inl ⟨f, hf, e⟩)
      · exact .inr (.inr (lvB f t hf ht _ e).1)
    · exact .inr (.inr (alB _ e).1)
  refine ⟨_, _, _, _, _, _, _, _, _, _, _, {
    q := Q8
    l := L8
    csK := fun j hj => (r3 j hj).trans (H.csK j hj)
    cross := cross7
    all := ?_
    allS := fun l hl v hv q hq e => ?_
    allL := fun g u hg hu q hq e => ?_
    isIn := fun x hx => ?_
    lsE := fun g u hg hu => ?_
    fits := fun x hx => ?_
    tb := tb8
    tbl := hTBl
    tsz := tsz
    tval := tval
    base := ⟨hb0, hbS, hbL, hbT, hbR, fun x hx => ?_, hbB, by omega⟩
    frm := ((H.frm.trans f4 (fun j _ e => by omega)).trans fr48 (fun j _ e => ?_))
    frm3 := ((H.frm3.trans f4 (fun j _ e => .inl e)).trans fr48 (fun j _ e => .inr e)) }⟩
  · rw [List.range_succ, List.map_append, List.map_singleton, map_ext (fun x hx => List.mem_range.1 hx)]
    unfold ptr at own8 ⊢
    rw [ext_new]
    exact own8
  · rcases hat8 with hat8 | ⟨q8, hat8, hq8⟩
    · rw [hat8] at hq
      exact allS6 l hl v hv q hq e
    · have : q8 = q := Option.some.inj (hat8.symm.trans hq)
      have := (sB6 l hl v hv q e).2
      omega
  · rcases hat8 with hat8 | ⟨q8, hat8, hq8⟩
    · rw [hat8] at hq
      exact allL7 g u hg hu q hq e
    · have : q8 = q := Option.some.inj (hat8.symm.trans hq)
      have := ((hBL7.own g u hg hu).lt q e).2
      omega
  · unfold upd
    by_cases hxk : x = k
    · rw [hxk, ← hie, if_pos rfl]
      exact (r5 k).2 (.inr rfl)
    · rw [ext_old hxk]
      have h1 := H.isIn x (by omega)
      by_cases e : slotOf (d x).at_ = i
      · rw [if_pos e]
        exact (r5 x).2 (.inl (e ▸ h1))
      · rw [if_neg e]
        exact h1
  · rw [onLink_grow]
    unfold upd2
    by_cases e : g = f ∧ u = t
    · rw [if_pos e, if_pos ⟨e.1.symm, e.2.symm⟩, e.1, e.2, H.lsE f t hf ht]
    · rw [if_neg e, if_neg (fun h => e ⟨h.1.symm, h.2.symm⟩), List.append_nil]
      exact H.lsE g u hg hu
  · by_cases hxk : x = k
    · rw [hxk, ext_new]
      exact ⟨ht1, hf, ht, hft⟩
    · rw [ext_old hxk]
      exact H.fits x (by omega)
  · by_cases hxk : x = k
    · rw [hxk, ext_new]
      omega
    · rw [ext_old hxk]
      exact hbA x (by omega)
  · rcases e with e | ⟨g, hg, e⟩ | e
    · omega
    · have := hbR g hg
      omega
    · omega
end
theorem total_all (m : Nat) : total m (fun _ => true) = m := by
  unfold total
  rw [List.filter_eq_self.2 (fun _ _ => rfl), List.length_range]

/-- The members, for their names. -/
structure Mems (w : World) (n : Nat) (cs : Array Value) (K : Nat → Prop) : Prop where
  ex : ∃ MB mc NB nc, cs[0]? = some (.slice (some ⟨MB, 0, none⟩) n n) ∧ K MB ∧ Blk w MB mc 61 ∧ K NB ∧ Blk w NB nc 9 ∧ (∀ i, i < n → ∃ q cm, mc[i]? = some (.pointer (some ⟨q, 0, none⟩)) ∧ K q ∧ Blk w q cm 72 ∧ cm[0]? = some (.slice (some ⟨NB, 0, none⟩) n 4)) ∧ ∀ i, i < 4 → ∃ s, nc[i]? = some (.string s)

/-- What is built. -/
structure Built (w : World) (n m S : Nat) (allv : Value) (w' : World) : Prop where
  ex : ∃ K B A d cs hs ix F0 F1 LB RB lc rc lv ls, Sim K w' B n m A d S cs hs ix F0 F1 true LB RB lc rc lv ls 0 (fun _ => true) ∧ w'.ownsRow B 35 1 allv m ((List.range m).map (ptr A)) ∧ ((∀ f t, f < n → t < n → ls f t = onLink m d (fun _ => true) f t) ∧ ∀ x, x < m → (d x).fr ≠ (d x).tt) ∧ (cs[136]? = some (.slice none 0 0) ∧ cs[137]? = some (.int .i64 0) ∧ cs[143]? = some .nilIface ∧ cs[144]? = some .nilIface) ∧ (∀ k, k < w.heap.size → K k) ∧ (∀ k, allv.ownBlock = some k → K k) ∧ (∀ k, w'.heap.size ≤ k → K k) ∧ B ≤ w'.heap.size ∧ Frm (fun j => w.heap.size ≤ j) w w' ∧ Mems w' n cs K

theorem zero51_136 : zero51[136]? = some (.slice none 0 0) := by kernel_rfl
theorem zero51_137 : zero51[137]? = some (.int .i64 0) := by kernel_rfl
theorem zero51_143 : zero51[143]? = some .nilIface := by kernel_rfl
theorem zero51_144 : zero51[144]? = some .nilIface := by kernel_rfl
theorem zero51_2 : zero51[2]? = some (.int .i64 0) := by kernel_rfl

set_option maxHeartbeats 2000000 in
theorem Blt.built {w00 w03 w w' : World} {B n m : Nat} {A : Nat → Nat} {d : Nat → Arr} {S : Nat} {cs : Array Value} {hs : Nat → List Nat} {ix : Nat → Nat} {F0 F1 : Nat} {LB MB BB : Nat} {RB : Nat → Nat} {lc : Array Value} {rc : Nat → Array Value} {lv : Nat → Nat → Value} {ls : Nat → Nat → List Nat} {allv : Value} {TB : Nat} {tc : Array Value}
    (H : Blt w00.heap.size w00 w03 w B n m A d S (simCells n MB LB BB) cs hs ix F0 F1 LB RB lc rc lv ls allv TB tc) (hB : B = w03.heap.size) (hn : n ≤ 4) (hm : m ≤ 256) (hT : TabAt w00)
    {sc mc nc tc3 : Array Value} {rc3 : Nat → Array Value} {NB : Nat} (hS3 : Blk w03 S sc 51) (hR3 : ∀ f, f < n → Blk w03 (RB f) (rc3 f) 24) (hT3 : Blk w03 TB tc3 28)
    (hM3 : Blk w03 MB mc 61) (hN3 : Blk w03 NB nc 9) (hq3 : ∀ i, i < n → ∃ q cm, mc[i]? = some (.pointer (some ⟨q, 0, none⟩)) ∧ Blk w03 q cm 72 ∧ cm[0]? = some (.slice (some ⟨NB, 0, none⟩) n 4)) (hnc : ∀ i, i < 4 → ∃ s, nc[i]? = some (.string s))
    (hS' : Blk w' S ((cs.setIfInBounds 133 (.int .i64 m)).setIfInBounds 139 (.int .u64 m)) 51) (hf' : Frm (fun j => j = S) w w') : Built w00 n m S allv w' := by
  obtain ⟨hb0, hbS, hbL, hbT, hbR, hbA, hbB, hbz⟩ := H.base
  have hz133 : cs[133]? = some (.int .i64 0) := (H.csK 133 (by omega)).trans ((simCells_get (by decide) (by decide) (by decide)).trans (by kernel_rfl))
  have hz1 : 133 < cs.size := (Array.getElem?_eq_some_iff.1 hz133).1
  obtain ⟨cs', hcs'⟩ : ∃ c, c = (cs.setIfInBounds 133 (.int .i64 m)).setIfInBounds 139 (.int .u64 m) := ⟨_, rfl⟩
  rw [← hcs'] at hS'
  have ge : ∀ j, j ≠ 133 → j ≠ 139 → cs'[j]? = cs[j]? := fun j h1 h2 => by
    rw [hcs', Array.getElem?_setIfInBounds_ne (Ne.symm h2), Array.getElem?_setIfInBounds_ne (Ne.symm h1)]
  have g133 : cs'[133]? = some (.int .i64 m) := by
    rw [hcs', Array.getElem?_setIfInBounds_ne (by decide), Array.getElem?_setIfInBounds_self_of_lt hz1]
  have gz : ∀ j, j < 3 ∨ 133 ≤ j → j ≠ 0 → j ≠ 133 → j ≠ 134 → j ≠ 135 → j ≠ 139 → cs'[j]? = zero51[j]? := fun j hj h0 h1 h2 h3 h4 => (ge j h1 h4).trans ((H.csK j hj).trans (simCells_get h0 h2 h3))
  have hSB := H.q.low
  have s' := hf'.size
  have slB : ∀ i, i < 128 → ∀ v, cs'[3 + i]? = some v → ∀ q, v.ownBlock = some q → cs[3 + i]? = some v ∧ B ≤ q ∧ q < w.heap.size := fun i hi v hv q hq => by
    rw [ge _ (by omega) (by omega)] at hv
    obtain ⟨v', h1, h2⟩ := H.q.slot i hi
    rw [hv] at h1
    have e' := Option.some.inj h1
    subst e'
    exact ⟨hv, h2.lt q hq⟩
  have lvB : ∀ g u, g < n → u < n → ∀ q, (lv g u).ownBlock = some q → B ≤ q ∧ q < w.heap.size := fun g u hg hu q hq => (H.l.own g u hg hu).lt q hq
  obtain ⟨K, hK⟩ : ∃ K : Nat → Prop, K = fun k => k ≠ S ∧ (∀ f, f < n → k ≠ RB f) ∧ (∀ x, x < m → k ≠ A x) ∧ (∀ i, i < 128 → ∀ v, cs'[3 + i]? = some v → v.ownBlock ≠ some k) ∧ ∀ f t, f < n → t < n → (lv f t).ownBlock ≠ some k := ⟨_, rfl⟩
  have kI : ∀ k, k ≠ S → (∀ f, f < n → k ≠ RB f) → (∀ x, x < m → k ≠ A x) → (∀ i, i < 128 → ∀ v, cs'[3 + i]? = some v → v.ownBlock ≠ some k) → (∀ f t, f < n → t < n → (lv f t).ownBlock ≠ some k) → K k := fun k h1 h2 h3 h4 h5 => by rw [hK]; exact ⟨h1, h2, h3, h4, h5⟩
  have kE : ∀ k, K k → k ≠ S ∧ (∀ f, f < n → k ≠ RB f) ∧ (∀ x, x < m → k ≠ A x) ∧ (∀ i, i < 128 → ∀ v, cs'[3 + i]? = some v → v.ownBlock ≠ some k) ∧ ∀ f t, f < n → t < n → (lv f t).ownBlock ≠ some k := fun k h => by rw [hK] at h; exact h
  have kLow : ∀ k, k < w00.heap.size → K k := fun k hk => kI k (by omega) (fun f hf => by have := hbR f hf; omega) (fun x hx => by have := hbA x hx; omega) (fun i hi v hv e => by have := (slB i hi v hv k e).2.1; omega) (fun f t hf ht e => by have := (lvB f t hf ht k e).1; omega)
  have Q' : Queue w' B m A d S cs' hs ix F0 F1 true := H.q.move hS' (fun j h1 h2 => ge j (by omega) (by omega)) hf' (fun x hx => blk_ne (H.q.arr.blk x hx) H.q.blk (by decide)) (fun i hi v hv q hq e => by
    obtain ⟨v', h1, h2⟩ := H.q.slot i hi
    rw [hv] at h1
    have e' := Option.some.inj h1
    subst e'
    have := (h2.lt q hq).1
    omega)
  have L' : BL w' B n A LB RB lc rc lv ls := H.l.frm hf' (blk_ne H.l.lb H.q.blk (by decide)) (fun g hg => blk_ne (H.l.rb g hg) H.q.blk (by decide)) (fun g u hg hu q hq e => by have := (lvB g u hg hu q hq).1; omega)
  have kept : ∀ {b : Nat} {c : Array Value} {t : TypeId}, Blk w03 b c t → t ≠ 28 → t ≠ 51 → t ≠ 24 → K b ∧ Blk w' b c t := fun {b c t} hb h1 h2 h3 => by
    have hbl := hb.lt
    have nS := blk_ne hb hS3 h2
    have nR := fun f hf => blk_ne hb (hR3 f hf) h3
    refine ⟨kI b nS nR (fun x hx => by have := hbA x hx; omega) (fun i hi v hv e => by have := (slB i hi v hv b e).2.1; omega) (fun f t hf ht e => by have := (lvB f t hf ht b e).1; omega), hf'.blk (H.frm3.blk hb (fun e => ?_)) nS⟩
    rcases e with e | e | ⟨f, hf, e⟩ | e
    · exact blk_ne hb hT3 h1 e
    · exact nS e
    · exact nR f hf e
    · omega
  have hfr : Frm (fun j => w00.heap.size ≤ j) w00 w' := H.frm.trans hf' (fun j _ e => by omega)
  refine ⟨K, B, A, d, cs', hs, ix, F0, F1, LB, RB, lc, rc, lv, ls, {
    q := Q'
    l := L'.links
    c134 := ?_
    c133 := by rw [total_all]; exact g133
    c2 := (gz 2 (by omega) (by decide) (by decide) (by decide) (by decide) (by decide)).trans zero51_2
    cross := fun i hi v hv f t hf ht q hq => H.cross i hi v (slB i hi v hv q hq).1 f t hf ht q hq
    isIn := fun x hx => ⟨fun _ => rfl, fun _ => H.isIn x hx⟩
    lens := fun f t hf ht => by rw [H.lsE f t hf ht]
    exact_ := fun h => by cases h
    fits := fun x hx => ⟨(H.fits x hx).1, (H.fits x hx).2.1, (H.fits x hx).2.2.1⟩
    small := ⟨hn, hm⟩
    tab := fun j hj => ?_
    base := ⟨kLow 0 hb0, fun h => (kE S h).1 rfl, fun f hf h => (kE _ h).2.1 f hf rfl, fun x hx h => (kE _ h).2.2.1 x hx rfl⟩
    offQ := fun i hi v hv q hq h => (kE q h).2.2.2.1 i hi v hv hq
    offL := fun f t hf ht q hq h => (kE q h).2.2.2.2 f t hf ht hq }, ?_, ⟨H.lsE, fun x hx => (H.fits x hx).2.2.2⟩, ⟨(gz 136 (by omega) (by decide) (by decide) (by decide) (by decide) (by decide)).trans zero51_136, (gz 137 (by omega) (by decide) (by decide) (by decide) (by decide) (by decide)).trans zero51_137, (gz 143 (by omega) (by decide) (by decide) (by decide) (by decide) (by decide)).trans zero51_143, (gz 144 (by omega) (by decide) (by decide) (by decide) (by decide) (by decide)).trans zero51_144⟩, kLow, fun k hk => ?_, fun k hk => ?_, by omega, hfr, ?_⟩
  · rw [ge 134 (by decide) (by decide), H.csK 134 (by omega)]
    unfold simCells
    rw [Array.getElem?_setIfInBounds_ne (by decide), Array.getElem?_setIfInBounds_self_of_lt (by simp [zero51_size])]
  · have h0 := hT j hj
    have hlt := World.block_lt_of_cell? w00 ⟨0, j, none⟩ h0
    rw [hfr.cell (a := ⟨0, j, none⟩) hlt (by show ¬ w00.heap.size ≤ 0; omega)]
    exact h0
  · exact hf'.owns H.all (fun q hq e => by have := (H.all.lt q hq).1; omega)
  · have hk2 := H.all.lt k hk
    exact kI k (by omega) (fun f hf => by have := H.l.rbl f hf; omega) (fun x hx e => owns_blk H.all (H.q.arr.blk x hx) (by decide) (by rw [← e]; exact hk)) (fun i hi v hv e => H.allS i hi v (slB i hi v hv k e).1 k hk e) (fun f t hf ht e => H.allL f t hf ht k hk e)
  · exact kI k (by omega) (fun f hf => by have := H.l.rbl f hf; omega) (fun x hx => by have := (H.q.arr.blk x hx).lt; omega) (fun i hi v hv e => by have := (slB i hi v hv k e).2.2; omega) (fun f t hf ht e => by have := (lvB f t hf ht k e).2; omega)
  · refine ⟨MB, mc, NB, nc, ?_, (kept hM3 (by decide) (by decide) (by decide)).1, (kept hM3 (by decide) (by decide) (by decide)).2, (kept hN3 (by decide) (by decide) (by decide)).1, (kept hN3 (by decide) (by decide) (by decide)).2, fun i hi => ?_, hnc⟩
    · rw [ge 0 (by decide) (by decide), H.csK 0 (by omega)]
      unfold simCells
      rw [Array.getElem?_setIfInBounds_ne (by decide), Array.getElem?_setIfInBounds_ne (by decide), Array.getElem?_setIfInBounds_self_of_lt (by simp [zero51_size])]
    · obtain ⟨q, cm, h1, h2, h3⟩ := hq3 i hi
      have := kept h2 (by decide) (by decide) (by decide)
      exact ⟨q, cm, h1, this.1, this.2, h3⟩
end Go.Proofs.YbulkaryoFmt
