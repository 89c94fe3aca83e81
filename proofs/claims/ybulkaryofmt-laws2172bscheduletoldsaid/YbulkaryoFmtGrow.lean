/-
  One arrival more: the queue grows.
-/
import Derived.Test.YbulkaryoFmtNext
namespace Go.Proofs.YbulkaryoFmt
open Go.RowKit

/-- A function with one value more. -/
def ext {α : Type} (g : Nat → α) (k : Nat) (v : α) : Nat → α := fun x => if x = k then v else g x
theorem ext_old {α : Type} {g : Nat → α} {k x : Nat} {v : α} (h : x ≠ k) : ext g k v x = g x := if_neg h
theorem ext_new {α : Type} (g : Nat → α) (k : Nat) (v : α) : ext g k v k = v := if_pos rfl

theorem map_ext {A : Nat → Nat} {k nb : Nat} {l : List Nat} (h : ∀ x ∈ l, x < k) : l.map (ptr (ext A k nb)) = l.map (ptr A) := by
  apply List.map_congr_left
  intro x hx
  have := h x hx
  unfold ptr
  rw [ext_old (by omega)]

theorem heap_ext {d : Nat → Arr} {k : Nat} {e : Arr} {l : List Nat} (h : ∀ x ∈ l, x < k) (hh : HeapF (fOf d l) l.length) : HeapF (fOf (ext d k e) l) l.length := by
  have hf : ∀ i, i < l.length → fOf (ext d k e) l i = fOf d l i := fun i hi => by
    have hx : l[i]? = some l[i] := List.getElem?_eq_getElem hi
    have := h _ (List.mem_of_getElem? hx)
    rw [fOf_at hx, fOf_at hx]
    unfold key
    rw [ext_old (by omega)]
  intro i h0 hL
  rw [hf i hL, hf _ (by omega)]
  exact hh i h0 hL

/-- The queue with one arrival more, not yet in a slot. -/
theorem Queue.grow {w w' : World} {B k : Nat} {A : Nat → Nat} {d : Nat → Arr} {S : Nat} {cs : Array Value} {hs : Nat → List Nat} {ix : Nat → Nat} {F0 F1 : Nat} {ord : Bool} (Q : Queue w B k A d S cs hs ix F0 F1 ord) {nb : Nat} {e : Arr} (hf : Frm (fun _ => False) w w') (hb : Blk w' nb (arrCells e k 0) 34) (hn : w.heap.size ≤ nb) :
    Queue w' B (k + 1) (ext A k nb) (ext d k e) S cs hs (ext ix k 0) F0 F1 ord :=
  { blk := hf.blk Q.blk id
    low := Q.low
    arr := ⟨fun j hj => by
        by_cases e1 : j = k
        · subst e1
          rw [ext_new, ext_new, ext_new]
          exact hb
        · rw [ext_old e1, ext_old e1, ext_old e1]
          exact hf.blk (Q.arr.blk j (by omega)) id,
      fun i j hi hj he => by
        by_cases e1 : i = k
        · by_cases e2 : j = k
          · omega
          · rw [e1, ext_new, ext_old e2] at he
            have := (Q.arr.blk j (by omega)).lt
            omega
        · by_cases e2 : j = k
          · rw [e2, ext_new, ext_old e1] at he
            have := (Q.arr.blk i (by omega)).lt
            omega
          · rw [ext_old e1, ext_old e2] at he
            exact Q.arr.inj i j (by omega) (by omega) he⟩
    slot := fun i hi => by
      obtain ⟨v, h1, h2⟩ := Q.slot i hi
      refine ⟨v, h1, ?_⟩
      rw [map_ext (fun x hx => (Q.mem i hi x hx).1)]
      exact hf.owns h2 (fun _ _ => id)
    apart := Q.apart
    mem := fun i hi x hx => by
      obtain ⟨h1, h2⟩ := Q.mem i hi x hx
      exact ⟨by omega, by rw [ext_old (by omega)]; exact h2⟩
    pos := fun i hi p x hx => by
      have := (Q.mem i hi x (List.mem_of_getElem? hx)).1
      rw [ext_old (by omega)]
      exact Q.pos i hi p x hx
    len := fun i hi => Nat.le_succ_of_le (Q.len i hi)
    w0 := Q.w0
    w1 := Q.w1
    l0 := Q.l0
    l1 := Q.l1
    bit0 := Q.bit0
    bit1 := Q.bit1
    heap := fun ho i hi => heap_ext (fun x hx => (Q.mem i hi x hx).1) (Q.heap ho i hi) }

/-- Behind a push: the queue holds one more. -/
structure More (w : World) (B m : Nat) (A : Nat → Nat) (d : Nat → Arr) (S : Nat) (cs : Array Value) (hs : Nat → List Nat) (i j : Nat) (ord : Bool) (w' : World) : Prop where
  ex : ∃ cs' h' ix' F0 F1 v b, Queue w' B m A d S cs' (upd hs i h') ix' F0 F1 ord ∧ (∀ y, y ∈ h' ↔ y ∈ hs i ∨ y = j) ∧ (∀ l, l < 3 ∨ 133 ≤ l → cs'[l]? = cs[l]?) ∧ (∀ l, l < 128 → l ≠ i → cs'[3 + l]? = cs[3 + l]?) ∧ cs[3 + i]? = some v ∧ (∀ u, cs'[3 + i]? = some u → u.ownBlock = some b) ∧ (v.ownBlock = some b ∨ w.heap.size ≤ b) ∧ Frm (fun k => v.ownBlock = some k ∨ k = S ∨ ∃ x, x < m ∧ k = A x) w w'

set_option maxHeartbeats 1000000 in
theorem Queue.pushed {w w' : World} {B m : Nat} {A : Nat → Nat} {d : Nat → Arr} {S : Nat} {cs : Array Value} {hs : Nat → List Nat} {ix : Nat → Nat} {F0 F1 : Nat} {ord : Bool} (Q : Queue w B m A d S cs hs ix F0 F1 ord) {j F : Nat} {v : Value} (hj : j < m) (hnew : j ∉ hs (slotOf (d j).at_)) (hl : (hs (slotOf (d j).at_)).length + 1 ≤ m) (hv : cs[3 + slotOf (d j).at_]? = some v) (hF : F = if slotOf (d j).at_ < 64 then F0 else F1)
    (hP : Pushed B m A d S cs v (hs (slotOf (d j).at_)) ix j F w w') : More w B m A d S cs hs (slotOf (d j).at_) j ord w' := by
  obtain ⟨b, cap, h', ix', r1, r2, r3, r4, r5, r6, r7, r8, r9⟩ := hP
  have hi := slotOf_lt (d j).at_
  generalize hie : slotOf (d j).at_ = i at hnew hl hv hF r1 r3 r4 r5 r6 r7 r8 r9 hi ⊢
  have hz3 : 3 + i < cs.size := (Array.getElem?_eq_some_iff.1 hv).1
  have hz1 : 131 < cs.size := (Array.getElem?_eq_some_iff.1 Q.w0).1
  have hz2 : 132 < cs.size := (Array.getElem?_eq_some_iff.1 Q.w1).1
  obtain ⟨cs', hcs'⟩ : ∃ c, c = (cs.setIfInBounds (3 + i) (.slice (some ⟨b, 0, none⟩) ((hs i).length + 1) cap)).setIfInBounds (131 + i / 64) (.int .u64 ((F ||| 2 ^ (i % 64) : Nat) : Int)) := ⟨_, rfl⟩
  rw [← hcs'] at r1
  have g3 : ∀ l, l ≠ 3 + i → l ≠ 131 + i / 64 → cs'[l]? = cs[l]? := fun l h1 h2 => by
    rw [hcs', Array.getElem?_setIfInBounds_ne (Ne.symm h2), Array.getElem?_setIfInBounds_ne (Ne.symm h1)]
  have gi : cs'[3 + i]? = some (.slice (some ⟨b, 0, none⟩) ((hs i).length + 1) cap) := by
    rw [hcs', Array.getElem?_setIfInBounds_ne (by omega), Array.getElem?_setIfInBounds_self_of_lt hz3]
  have hsl : ∀ l, l < 128 → l ≠ i → cs'[3 + l]? = cs[3 + l]? := fun l h1 h2 => g3 _ (by omega) (by omega)
  have hne' : h'.isEmpty = false := by
    cases h' with
    | nil => cases r4
    | cons _ _ => rfl
  obtain ⟨F0', F1', gw0, gw1, gl0, gl1, gb0, gb1⟩ : ∃ F0' F1', cs'[131]? = some (.int .u64 (F0' : Nat)) ∧ cs'[132]? = some (.int .u64 (F1' : Nat)) ∧ F0' < 18446744073709551616 ∧ F1' < 18446744073709551616 ∧ (∀ l, l < 64 → F0'.testBit l = !(upd hs i h' l).isEmpty) ∧ (∀ l, l < 64 → F1'.testBit l = !(upd hs i h' (64 + l)).isEmpty) := by
    by_cases h64 : i < 64
    · rw [if_pos h64] at hF
      refine ⟨F0 ||| 2 ^ i, F1, ?_, ?_, or_lt Q.l0 h64, Q.l1, fun l hl' => ?_, fun l hl' => ?_⟩
      · rw [hcs', show 131 + i / 64 = 131 by omega, Array.getElem?_setIfInBounds_self_of_lt (by simp; omega), hF, Nat.mod_eq_of_lt h64]
      · rw [g3 132 (by omega) (by omega)]
        exact Q.w1
      · rw [or_bit, Q.bit0 l hl']
        unfold upd
        by_cases e : l = i
        · rw [if_pos e, hne']
          simp [e]
        · simp [e]
      · rw [Q.bit1 l hl']
        unfold upd
        rw [if_neg (by omega)]
    · rw [if_neg h64] at hF
      refine ⟨F0, F1 ||| 2 ^ (i - 64), ?_, ?_, Q.l0, or_lt Q.l1 (by omega), fun l hl' => ?_, fun l hl' => ?_⟩
      · rw [g3 131 (by omega) (by omega)]
        exact Q.w0
      · rw [hcs', show 131 + i / 64 = 132 by omega, Array.getElem?_setIfInBounds_self_of_lt (by simp; omega), hF, show i % 64 = i - 64 by omega]
      · rw [Q.bit0 l hl']
        unfold upd
        rw [if_neg (by omega)]
      · rw [or_bit, Q.bit1 l hl']
        unfold upd
        by_cases e : l = i - 64
        · have e' : 64 + l = i := by omega
          rw [if_pos e', hne']
          simp [e]
        · have e' : ¬ 64 + l = i := by omega
          simp [e, e']
  have hbB : B ≤ b := (r3.row.lt b rfl).1
  refine ⟨cs', h', ix', F0', F1', v, b, ?_, r5, fun l hl' => g3 l (by omega) (by omega), hsl, hv, fun u hu => ?_, r8, r9⟩
  · refine {
      blk := r1
      low := Q.low
      arr := r2
      slot := fun l hl' => ?_
      apart := fun l q hl' hq hlq x u hx' hu' p hp => ?_
      mem := fun l hl' y hy => ?_
      pos := fun l hl' p y hy => ?_
      len := fun l hl' => ?_
      w0 := gw0
      w1 := gw1
      l0 := gl0
      l1 := gl1
      bit0 := gb0
      bit1 := gb1
      heap := fun ho l hl' => ?_ }
    · unfold upd
      by_cases e : l = i
      · subst e
        rw [if_pos rfl]
        refine ⟨_, gi, ?_⟩
        have := r3.row
        rw [r4] at this ⊢
        exact this
      · rw [if_neg e]
        obtain ⟨x, hx1, hx2⟩ := Q.slot l hl'
        refine ⟨x, (hsl l hl' e).trans hx1, r9.owns hx2 (fun q hq e' => ?_)⟩
        rcases e' with e' | e' | ⟨y, hy, e'⟩
        · exact Q.apart l i hl' hi e x _ hx1 hv q hq e'
        · have := (hx2.lt q hq).1
          have := Q.low
          omega
        · exact owns_blk hx2 (Q.arr.blk y hy) (by decide) (by rw [← e']; exact hq)
    · have hside : ∀ l, l < 128 → l ≠ i → ∀ x, cs[3 + l]? = some x → x.ownBlock ≠ some b := fun l hl' e x hx1 hb => by
        obtain ⟨x', h1, h2⟩ := Q.slot l hl'
        rw [hx1] at h1
        have e' := Option.some.inj h1
        subst e'
        rcases r8 with r8 | r8
        · exact Q.apart l i hl' hi e x v hx1 hv b hb r8
        · have := (h2.lt b hb).2
          omega
      by_cases e1 : l = i
      · subst e1
        have hq' : q ≠ l := fun e => hlq e.symm
        rw [gi] at hx'
        rw [hsl q hq hq'] at hu'
        have hx'' := Option.some.inj hx'
        subst hx''
        have : b = p := Option.some.inj hp
        subst this
        exact hside q hq hq' u hu'
      · by_cases e2 : q = i
        · subst e2
          rw [gi] at hu'
          rw [hsl l hl' e1] at hx'
          have hu'' := Option.some.inj hu'
          subst hu''
          intro hp'
          have : b = p := Option.some.inj hp'
          subst this
          exact hside l hl' e1 x hx' hp
        · rw [hsl l hl' e1] at hx'
          rw [hsl q hq e2] at hu'
          exact Q.apart l q hl' hq hlq x u hx' hu' p hp
    · unfold upd at hy
      by_cases e : l = i
      · rw [if_pos e] at hy
        rw [e]
        rcases (r5 y).1 hy with h | h
        · exact Q.mem i hi y h
        · rw [h]
          exact ⟨hj, hie⟩
      · rw [if_neg e] at hy
        exact Q.mem l hl' y hy
    · unfold upd at hy
      by_cases e : l = i
      · rw [if_pos e] at hy
        exact r3.pos p y hy
      · rw [if_neg e] at hy
        have hym := Q.mem l hl' y (List.mem_of_getElem? hy)
        rw [r6 y (fun hy' => e (by rw [← hym.2, ← (Q.mem i hi y hy').2])) (fun e' => e (by rw [← hym.2, e', hie]))]
        exact Q.pos l hl' p y hy
    · unfold upd
      by_cases e : l = i
      · rw [if_pos e, r4]
        exact hl
      · rw [if_neg e]
        exact Q.len l hl'
    · unfold upd
      by_cases e : l = i
      · rw [if_pos e]
        exact r7 (Q.heap ho i hi)
      · rw [if_neg e]
        exact Q.heap ho l hl'
  · rw [gi] at hu
    rw [← Option.some.inj hu]
    rfl
end Go.Proofs.YbulkaryoFmt
