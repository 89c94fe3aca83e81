/-
  The whole simulation in memory; Sim.next where the delays decide.
-/
import Derived.Test.YbulkaryoFmtLeave
namespace Go.Proofs.YbulkaryoFmt
open Go.RowKit

/-- Those on the link from f to t that are still on their way. -/
def onLink (m : Nat) (d : Nat → Arr) (rem : Nat → Bool) (f t : Nat) : List Nat := (List.range m).filter fun x => rem x && ((d x).fr == f && (d x).tt == t)
def total (m : Nat) (rem : Nat → Bool) : Nat := ((List.range m).filter rem).length
def without (rem : Nat → Bool) (x : Nat) : Nat → Bool := fun y => rem y && !(y == x)

theorem filter_without {m x : Nat} {rem : Nat → Bool} {q : Nat → Bool} (hx : x < m) (hr : rem x = true) (hq : q x = true) : ((List.range m).filter fun y => without rem x y && q y).length + 1 = ((List.range m).filter fun y => rem y && q y).length := by
  induction m with
  | zero => omega
  | succ m ih =>
    rw [List.range_succ, List.filter_append, List.filter_append, List.length_append, List.length_append]
    by_cases e : x = m
    · subst e
      have h1 : ((List.range x).filter fun y => without rem x y && q y) = ((List.range x).filter fun y => rem y && q y) := by
        apply List.filter_congr
        intro y hy
        have : (y == x) = false := beq_eq_false_iff_ne.2 (by have := List.mem_range.1 hy; omega)
        simp [without, this]
      rw [h1]
      simp [without, hr, hq]
    · have := ih (by omega)
      have h2 : ([m].filter fun y => without rem x y && q y) = ([m].filter fun y => rem y && q y) := by
        apply List.filter_congr
        intro y hy
        have : (y == x) = false := beq_eq_false_iff_ne.2 (by rw [List.mem_singleton.1 hy]; exact fun h => e h.symm)
        simp [without, this]
      rw [h2]
      omega
theorem total_without {m x : Nat} {rem : Nat → Bool} (hx : x < m) (hr : rem x = true) : total m (without rem x) + 1 = total m rem := by
  have := filter_without (q := fun _ => true) hx hr rfl
  simpa [total] using this
theorem onLink_without {m x : Nat} {d : Nat → Arr} {rem : Nat → Bool} (hx : x < m) (hr : rem x = true) : (onLink m d (without rem x) (d x).fr (d x).tt).length + 1 = (onLink m d rem (d x).fr (d x).tt).length :=
  filter_without (q := fun y => (d y).fr == (d x).fr && (d y).tt == (d x).tt) hx hr (by simp)
theorem onLink_other {m x f t : Nat} {d : Nat → Arr} {rem : Nat → Bool} (hne : ¬ (f = (d x).fr ∧ t = (d x).tt)) : onLink m d (without rem x) f t = onLink m d rem f t := by
  apply List.filter_congr
  intro y hy
  by_cases e : y = x
  · subst e
    have : ((d y).fr == f && (d y).tt == t) = false := by
      rw [Bool.eq_false_iff]
      intro h
      simp at h
      exact hne ⟨h.1.symm, h.2.symm⟩
    simp [this]
  · have : (y == x) = false := beq_eq_false_iff_ne.2 e
    simp [without, this]

theorem tail_without {m x : Nat} {d : Nat → Arr} {rem : Nat → Bool} (h : (onLink m d rem (d x).fr (d x).tt)[0]? = some x) : (onLink m d rem (d x).fr (d x).tt).tail = onLink m d (without rem x) (d x).fr (d x).tt := by
  have hnd : (onLink m d rem (d x).fr (d x).tt).Nodup := List.Pairwise.filter _ List.nodup_range
  have h2 : onLink m d (without rem x) (d x).fr (d x).tt = (onLink m d rem (d x).fr (d x).tt).filter fun y => !(y == x) := by
    unfold onLink
    rw [List.filter_filter]
    apply List.filter_congr
    intro y _
    unfold without
    cases rem y <;> cases (y == x) <;> simp
  rw [h2]
  cases hl : onLink m d rem (d x).fr (d x).tt with
  | nil => rw [hl] at h; cases h
  | cons z zs =>
    rw [hl] at h hnd
    have e : z = x := by simpa using h
    subst e
    rw [List.tail_cons, List.filter_cons_of_neg (by simp)]
    symm
    rw [List.filter_eq_self]
    intro y hy
    have : y ≠ z := fun e => (List.nodup_cons.1 hnd).1 (e ▸ hy)
    simp [this]

/-- The simulation. -/
structure Sim (K : Nat → Prop) (w : World) (B n m : Nat) (A : Nat → Nat) (d : Nat → Arr) (S : Nat) (cs : Array Value) (hs : Nat → List Nat) (ix : Nat → Nat) (F0 F1 : Nat) (ord : Bool) (LB : Nat) (RB : Nat → Nat) (lc : Array Value) (rc : Nat → Array Value) (lv : Nat → Nat → Value) (ls : Nat → Nat → List Nat) (now : Nat) (rem : Nat → Bool) : Prop where
  q : Queue w B m A d S cs hs ix F0 F1 ord
  l : Links w B n A LB RB lc rc lv ls
  c134 : cs[134]? = some (.slice (some ⟨LB, 0, none⟩) n n)
  c133 : cs[133]? = some (.int .i64 (total m rem))
  c2 : cs[2]? = some (.int .i64 now)
  cross : ∀ i, i < 128 → ∀ v, cs[3 + i]? = some v → ∀ f t, f < n → t < n → ∀ k, v.ownBlock = some k → (lv f t).ownBlock ≠ some k
  isIn : ∀ x, x < m → (x ∈ hs (slotOf (d x).at_) ↔ rem x = true)
  lens : ∀ f t, f < n → t < n → (ls f t).length = (onLink m d rem f t).length
  exact_ : ord = false → ∀ f t, f < n → t < n → ls f t = onLink m d rem f t
  fits : ∀ x, x < m → (d x).at_ ≤ 10000000 ∧ (d x).fr < n ∧ (d x).tt < n
  small : n ≤ 4 ∧ m ≤ 256
  tab : TabAt w
  base : K 0 ∧ ¬ K S ∧ (∀ f, f < n → ¬ K (RB f)) ∧ ∀ x, x < m → ¬ K (A x)
  offQ : ∀ i, i < 128 → ∀ v, cs[3 + i]? = some v → ∀ k, v.ownBlock = some k → ¬ K k
  offL : ∀ f t, f < n → t < n → ∀ k, (lv f t).ownBlock = some k → ¬ K k

/-- Behind next: x has been taken off. -/
structure Gone (K : Nat → Prop) (w : World) (B n m : Nat) (A : Nat → Nat) (d : Nat → Arr) (S : Nat) (cs : Array Value) (ord : Bool) (LB : Nat) (RB : Nat → Nat) (lc : Array Value) (now : Nat) (rem : Nat → Bool) (x : Nat) (w' : World) : Prop where
  ex : ∃ cs' hs' ix' F0 F1 rc' lv' ls', Sim K w' B n m A d S cs' hs' ix' F0 F1 ord LB RB lc rc' lv' ls' now (without rem x) ∧ (∀ j, j < 2 ∨ 134 ≤ j → cs'[j]? = cs[j]?) ∧ Frm (fun k => ¬ K k) w w'

theorem Queue.move {P : Nat → Prop} {w w' : World} {B m : Nat} {A : Nat → Nat} {d : Nat → Arr} {S : Nat} {cs cs' : Array Value} {hs : Nat → List Nat} {ix : Nat → Nat} {F0 F1 : Nat} {ord : Bool} (Q : Queue w B m A d S cs hs ix F0 F1 ord) (hS : Blk w' S cs' 51) (hc : ∀ j, 3 ≤ j → j ≤ 132 → cs'[j]? = cs[j]?) (hf : Frm P w w') (hA : ∀ x, x < m → ¬ P (A x)) (hr : ∀ i, i < 128 → ∀ v, cs[3 + i]? = some v → ∀ k, v.ownBlock = some k → ¬ P k) : Queue w' B m A d S cs' hs ix F0 F1 ord :=
  { Q with
    blk := hS
    arr := Q.arr.frm hf hA
    slot := fun i hi => by
      obtain ⟨v, h1, h2⟩ := Q.slot i hi
      exact ⟨v, (hc _ (by omega) (by omega)).trans h1, hf.owns h2 (hr i hi v h1)⟩
    apart := fun i j hi hj hij v u hv hu => Q.apart i j hi hj hij v u ((hc _ (by omega) (by omega)).symm.trans hv) ((hc _ (by omega) (by omega)).symm.trans hu)
    w0 := (hc 131 (by omega) (by omega)).trans Q.w0
    w1 := (hc 132 (by omega) (by omega)).trans Q.w1 }
theorem Queue.drewN {w : World} {B m : Nat} {A : Nat → Nat} {d : Nat → Arr} {S : Nat} {cs : Array Value} {hs : Nat → List Nat} {ix : Nat → Nat} {F0 F1 : Nat} {ord : Bool} (Q : Queue w B m A d S cs hs ix F0 F1 ord) (q : Nat) : Queue (w.drewN q) B m A d S cs hs ix F0 F1 ord :=
  Q.move (P := fun _ => False) (Q.blk.drewN q) (fun _ _ _ => rfl) ((Frm.refl _ w).drewN q) (fun _ _ => id) (fun _ _ _ _ _ _ => id)

theorem arr_low {K : Nat → Prop} {w : World} {B n m : Nat} {A : Nat → Nat} {d : Nat → Arr} {S : Nat} {cs : Array Value} {hs : Nat → List Nat} {ix : Nat → Nat} {F0 F1 : Nat} {ord : Bool} {LB : Nat} {RB : Nat → Nat} {lc : Array Value} {rc : Nat → Array Value} {lv : Nat → Nat → Value} {ls : Nat → Nat → List Nat} {now : Nat} {rem : Nat → Bool} (M : Sim K w B n m A d S cs hs ix F0 F1 ord LB RB lc rc lv ls now rem) :
    (∀ y, y < m → A y ≠ S ∧ A y ≠ LB ∧ (∀ f, f < n → A y ≠ RB f)) ∧ S ≠ LB ∧ ∀ f, f < n → S ≠ RB f :=
  ⟨fun y hy => ⟨blk_ne (M.q.arr.blk y hy) M.q.blk (by decide), blk_ne (M.q.arr.blk y hy) M.l.lb (by decide), fun f hf => blk_ne (M.q.arr.blk y hy) (M.l.rb f hf) (by decide)⟩, blk_ne M.q.blk M.l.lb (by decide), fun f hf => blk_ne M.q.blk (M.l.rb f hf) (by decide)⟩

/-- The links behind the queue's step and a store. -/
theorem Sim.links {K : Nat → Prop} {w w1 w2 : World} {B n m : Nat} {A : Nat → Nat} {d : Nat → Arr} {S : Nat} {cs : Array Value} {hs : Nat → List Nat} {ix : Nat → Nat} {F0 F1 : Nat} {ord : Bool} {LB : Nat} {RB : Nat → Nat} {lc : Array Value} {rc : Nat → Array Value} {lv : Nat → Nat → Value} {ls : Nat → Nat → List Nat} {now : Nat} {rem : Nat → Bool} (M : Sim K w B n m A d S cs hs ix F0 F1 ord LB RB lc rc lv ls now rem)
    {x : Nat} {v : Value} (q4 : cs[3 + slotOf (d x).at_]? = some v) (q6 : Frm (fun k => k = S ∨ v.ownBlock = some k ∨ ∃ x, x < m ∧ k = A x) w w1) (s4 : Frm (fun k => k = S) w1 w2) : Links w2 B n A LB RB lc rc lv ls := by
  obtain ⟨d1, d2, d3⟩ := arr_low M
  have hSB := M.q.low
  have hi := slotOf_lt (d x).at_
  refine M.l.frm ((q6.mono (T := fun k => k = S ∨ v.ownBlock = some k ∨ ∃ x, x < m ∧ k = A x) (fun _ _ e => e)).trans s4 (fun _ _ e => .inl e)) (fun e => ?_) (fun g hg e => ?_) (fun g u hg hu k hk e => ?_)
  · rcases e with e | e | ⟨y, hy, e⟩
    · exact d2 e.symm
    · obtain ⟨v', h1', h2'⟩ := M.q.slot _ hi
      rw [q4] at h1'
      have e' := Option.some.inj h1'
      subst e'
      have := (h2'.lt _ e).1
      have := M.l.lbl
      omega
    · exact (d1 y hy).2.1 e.symm
  · rcases e with e | e | ⟨y, hy, e⟩
    · exact d3 g hg e.symm
    · obtain ⟨v', h1', h2'⟩ := M.q.slot _ hi
      rw [q4] at h1'
      have e' := Option.some.inj h1'
      subst e'
      have := (h2'.lt _ e).1
      have := M.l.rbl g hg
      omega
    · exact (d1 y hy).2.2 g hg e.symm
  · obtain ⟨hkB, cbk, hbk⟩ := (M.l.at_ g u hg hu).low k hk
    rcases e with e | e | ⟨y, hy, e⟩
    · omega
    · exact M.cross _ hi v q4 g u hg hu k e hk
    · exact blk_ne (M.q.arr.blk y hy) hbk (by decide) e.symm

set_option maxHeartbeats 1000000 in
/-- The three steps of a taking off, put together: the queue (w to w1), a store into the simulation (w1 to w2), the link (w2 to w3). -/
theorem Sim.gone {K : Nat → Prop} {w w1 w2 w3 : World} {B n m : Nat} {A : Nat → Nat} {d : Nat → Arr} {S : Nat} {cs : Array Value} {hs : Nat → List Nat} {ix : Nat → Nat} {F0 F1 : Nat} {ord : Bool} {LB : Nat} {RB : Nat → Nat} {lc : Array Value} {rc : Nat → Array Value} {lv : Nat → Nat → Value} {ls : Nat → Nat → List Nat} {now now' : Nat} {rem : Nat → Bool} (M : Sim K w B n m A d S cs hs ix F0 F1 ord LB RB lc rc lv ls now rem)
    {x : Nat} (hxm : x < m) (hrx : rem x = true) {cs1 : Array Value} {h1 : List Nat} {ix1 : Nat → Nat} {G0 G1 : Nat} {v : Value} (q1 : Queue w1 B m A d S cs1 (upd hs (slotOf (d x).at_) h1) ix1 G0 G1 ord) (q2 : ∀ y, y ∈ h1 ↔ y ∈ hs (slotOf (d x).at_) ∧ y ≠ x) (q3 : ∀ j, j < 3 ∨ 133 ≤ j → cs1[j]? = cs[j]?) (q4 : cs[3 + slotOf (d x).at_]? = some v) (q5 : ∀ u, cs1[3 + slotOf (d x).at_]? = some u → u.ownBlock = v.ownBlock) (q7 : ∀ j, j < 128 → j ≠ slotOf (d x).at_ → cs1[3 + j]? = cs[3 + j]?) (q6 : Frm (fun k => k = S ∨ v.ownBlock = some k ∨ ∃ x, x < m ∧ k = A x) w w1)
    {cs2 : Array Value} (s2 : ∀ j, 3 ≤ j → j ≤ 134 → cs2[j]? = cs1[j]?) (s3 : cs2[2]? = some (.int .i64 now')) (s4 : Frm (fun k => k = S) w1 w2)
    {b o cap : Nat} {cb : Array Value} (hv : lv (d x).fr (d x).tt = .slice (some ⟨b, o, none⟩) (ls (d x).fr (d x).tt).length cap) (hc : (ls (d x).fr (d x).tt).length ≤ cap) (hcm : cap ≤ 9223372036854775807) (hcb : ∀ i y, (ls (d x).fr (d x).tt)[i]? = some y → cb[o + i]? = some (ptr A y)) (hn0 : 0 < (ls (d x).fr (d x).tt).length)
    (hL : Left S (RB (d x).fr) b o (d x).tt (ls (d x).fr (d x).tt).length cap (total m rem) cs2 (rc (d x).fr) cb w2 w3) (hhead : ord = false → (ls (d x).fr (d x).tt)[0]? = some x) :
    ∃ cs' hs' ix' F0 F1 rc' lv' ls', Sim K w3 B n m A d S cs' hs' ix' F0 F1 ord LB RB lc rc' lv' ls' now' (without rem x) ∧ (∀ j, j < 2 ∨ 134 ≤ j → cs'[j]? = cs2[j]?) ∧ Frm (fun k => ¬ K k) w w3 := by
  obtain ⟨d1, d2, d3⟩ := arr_low M
  obtain ⟨_, hf, ht⟩ := M.fits x hxm
  have hSB := M.q.low
  have hi := slotOf_lt (d x).at_
  have fr13 : Frm (fun k => k = S ∨ k = RB (d x).fr ∨ k = b) w1 w3 := (s4.mono (fun _ _ e => .inl e)).trans hL.frm (fun _ _ e => e)
  have hvb : (lv (d x).fr (d x).tt).ownBlock = some b := by rw [hv]; rfl
  obtain ⟨hbB, cbb, hbb⟩ := (M.l.at_ _ _ hf ht).low b hvb
  have hrB := M.l.rbl _ hf
  have hslotB : ∀ i, i < 128 → ∀ u, cs1[3 + i]? = some u → ∀ k, u.ownBlock = some k → B ≤ k ∧ k ≠ b := fun i hi' u hu k hk => by
    obtain ⟨u', h1', h2'⟩ := q1.slot i hi'
    rw [hu] at h1'
    have e := Option.some.inj h1'
    subst e
    refine ⟨(h2'.lt k hk).1, fun e => ?_⟩
    by_cases hii : i = slotOf (d x).at_
    · subst hii
      exact M.cross _ hi v q4 _ _ hf ht k (by rw [← q5 u hu]; exact hk) (by rw [e]; exact hvb)
    · exact M.cross i hi' u ((q7 i hi' hii).symm.trans hu) _ _ hf ht k hk (by rw [e]; exact hvb)
  have e133 : (cs2.setIfInBounds 133 (.int .i64 ((total m rem : Int) - 1)))[133]? = some (.int .i64 (total m (without rem x))) := by
    have hz : 133 < cs2.size := (Array.getElem?_eq_some_iff.1 ((s2 133 (by omega) (by omega)).trans ((q3 133 (by omega)).trans M.c133))).1
    rw [Array.getElem?_setIfInBounds_self_of_lt hz]
    have := total_without hxm hrx
    rw [show ((total m rem : Int) - 1) = (total m (without rem x) : Int) by omega]
  have ge : ∀ j, j ≠ 133 → (cs2.setIfInBounds 133 (.int .i64 ((total m rem : Int) - 1)))[j]? = cs2[j]? := fun j hj => Array.getElem?_setIfInBounds_ne (Ne.symm hj)
  have L1 : Links w2 B n A LB RB lc rc lv ls := M.links q4 q6 s4
  have L2 := L1.left (S := S) hSB d2 d3 hf ht hn0 hv hc hcm hcb hL
  have hb0 : ∀ a c, (upd2 lv (d x).fr (d x).tt (leftOf b o (ls (d x).fr (d x).tt).length cap) a c).ownBlock = (lv a c).ownBlock := fun a c => by
    unfold upd2
    by_cases e : a = (d x).fr ∧ c = (d x).tt
    · rw [if_pos e, e.1, e.2, hv]
      unfold leftOf
      split <;> rfl
    · rw [if_neg e]
  have hfin : Frm (fun k => ¬ K k) w w3 := by
    have hb := M.base
    refine (q6.mono (fun k _ e hk => ?_)).trans fr13 (fun k _ e hk => ?_)
    · rcases e with e | e | ⟨y, hy, e⟩
      · exact hb.2.1 (e ▸ hk)
      · exact M.offQ _ hi v q4 k e hk
      · exact hb.2.2.2 y hy (e ▸ hk)
    · rcases e with e | e | e
      · exact hb.2.1 (e ▸ hk)
      · exact hb.2.2.1 _ hf (e ▸ hk)
      · exact M.offL _ _ hf ht k (by rw [e]; exact hvb) hk
  refine ⟨_, _, _, _, _, _, _, _, {
    q := q1.move hL.sB (fun j h1' h2' => (ge j (by omega)).trans (s2 j h1' (by omega))) fr13 (fun y hy e => ?_) (fun i hi' u hu k hk e => ?_)
    l := L2
    c134 := (ge 134 (by decide)).trans ((s2 134 (by omega) (by omega)).trans ((q3 134 (by omega)).trans M.c134))
    c133 := e133
    c2 := (ge 2 (by decide)).trans s3
    cross := fun i hi' u hu f t hf' ht' k hk => ?_
    isIn := fun y hy => ?_
    lens := fun f t hf' ht' => ?_
    exact_ := fun ho f t hf' ht' => ?_
    fits := M.fits
    small := M.small
    tab := fun j hj => ?_
    base := M.base
    offQ := fun i hi' u hu k hk => ?_
    offL := fun f t hf' ht' k hk => M.offL f t hf' ht' k (by rw [← hb0]; exact hk) }, fun j hj => ge j (by omega), hfin⟩
  · rcases e with e | e | e
    · exact (d1 y hy).1 e
    · exact (d1 y hy).2.2 _ hf e
    · exact blk_ne (M.q.arr.blk y hy) hbb (by decide) e
  · obtain ⟨k1, k2⟩ := hslotB i hi' u hu k hk
    rcases e with e | e | e
    · omega
    · omega
    · exact k2 e
  · rw [hb0]
    have hu' : cs1[3 + i]? = some u := (s2 (3 + i) (by omega) (by omega)).symm.trans ((ge (3 + i) (by omega)).symm.trans hu)
    by_cases hii : i = slotOf (d x).at_
    · subst hii
      exact M.cross _ hi v q4 f t hf' ht' k (by rw [← q5 u hu']; exact hk)
    · exact M.cross i hi' u ((q7 i hi' hii).symm.trans hu') f t hf' ht' k hk
  · have hbase := M.isIn y hy
    unfold upd without
    by_cases e : slotOf (d y).at_ = slotOf (d x).at_
    · rw [if_pos e, q2 y, ← e, hbase]
      simp
    · have hyx : y ≠ x := fun e' => e (by rw [e'])
      have hb : (y == x) = false := beq_eq_false_iff_ne.2 hyx
      rw [if_neg e, hbase, hb]
      simp
  · unfold upd2
    by_cases e : f = (d x).fr ∧ t = (d x).tt
    · rw [if_pos e, List.length_tail, M.lens _ _ hf ht, e.1, e.2]
      have := onLink_without (d := d) hxm hrx
      omega
    · rw [if_neg e, onLink_other e]
      exact M.lens f t hf' ht'
  · unfold upd2
    by_cases e : f = (d x).fr ∧ t = (d x).tt
    · rw [if_pos e, M.exact_ ho _ _ hf ht, e.1, e.2]
      have hh := hhead ho
      rw [M.exact_ ho _ _ hf ht] at hh
      exact tail_without hh
    · rw [if_neg e, onLink_other e]
      exact M.exact_ ho f t hf' ht'
  · have hb := M.base
    have h0 := M.tab j hj
    have hlt := World.block_lt_of_cell? w ⟨0, j, none⟩ h0
    rw [hfin.cell (a := ⟨0, j, none⟩) hlt (fun h => h hb.1)]
    exact h0
  · have hu' : cs1[3 + i]? = some u := (s2 (3 + i) (by omega) (by omega)).symm.trans ((ge (3 + i) (by omega)).symm.trans hu)
    by_cases hii : i = slotOf (d x).at_
    · subst hii
      exact M.offQ _ hi v q4 k (by rw [← q5 u hu']; exact hk)
    · exact M.offQ i hi' u ((q7 i hi' hii).symm.trans hu') k hk
end Go.Proofs.YbulkaryoFmt
