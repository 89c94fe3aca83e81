/-
  The queue: 128 slots with their heaps, the two words of bits; taking one off.
-/
import Derived.Test.YbulkaryoFmtFirst
namespace Go.Proofs.YbulkaryoFmt
open Go.RowKit

/-- The queue in memory. -/
structure Queue (w : World) (B m : Nat) (A : Nat → Nat) (d : Nat → Arr) (S : Nat) (cs : Array Value) (hs : Nat → List Nat) (ix : Nat → Nat) (F0 F1 : Nat) (ord : Bool) : Prop where
  blk : Blk w S cs 51
  low : S < B
  arr : Arrs w m A d ix
  slot : ∀ i, i < 128 → ∃ v, cs[3 + i]? = some v ∧ w.ownsRow B 35 1 v (hs i).length ((hs i).map (ptr A))
  apart : ∀ i j, i < 128 → j < 128 → i ≠ j → ∀ v u, cs[3 + i]? = some v → cs[3 + j]? = some u → ∀ k, v.ownBlock = some k → u.ownBlock ≠ some k
  mem : ∀ i, i < 128 → ∀ x, x ∈ hs i → x < m ∧ slotOf (d x).at_ = i
  pos : ∀ i, i < 128 → ∀ p x, (hs i)[p]? = some x → ix x = p
  len : ∀ i, i < 128 → (hs i).length ≤ m
  w0 : cs[131]? = some (.int .u64 F0)
  w1 : cs[132]? = some (.int .u64 F1)
  l0 : F0 < 18446744073709551616
  l1 : F1 < 18446744073709551616
  bit0 : ∀ i, i < 64 → F0.testBit i = !(hs i).isEmpty
  bit1 : ∀ i, i < 64 → F1.testBit i = !(hs (64 + i)).isEmpty
  heap : ord = true → ∀ i, i < 128 → HeapF (fOf d (hs i)) (hs i).length

/-- One slot's list is another. -/
def upd (hs : Nat → List Nat) (i : Nat) (h : List Nat) : Nat → List Nat := fun j => if j = i then h else hs j

/-- Behind a taking off: the queue stands anew. -/
structure Off (w : World) (B m : Nat) (A : Nat → Nat) (d : Nat → Arr) (S : Nat) (cs : Array Value) (hs : Nat → List Nat) (i x : Nat) (ord : Bool) (w' : World) : Prop where
  ex : ∃ cs' h' ix' F0 F1 v, Queue w' B m A d S cs' (upd hs i h') ix' F0 F1 ord ∧ (∀ y, y ∈ h' ↔ y ∈ hs i ∧ y ≠ x) ∧ h'.length = (hs i).length - 1 ∧ (∀ j, j < 3 ∨ 133 ≤ j → cs'[j]? = cs[j]?) ∧ (∀ j, j < 128 → j ≠ i → cs'[3 + j]? = cs[3 + j]?) ∧ cs'.size = cs.size ∧ cs[3 + i]? = some v ∧ (∀ u, cs'[3 + i]? = some u → u.ownBlock = v.ownBlock) ∧ Frm (fun k => k = S ∨ v.ownBlock = some k ∨ ∃ x, x < m ∧ k = A x) w w'

theorem isEmpty_of_len {l : List Nat} : (l.length = 0) = (l.isEmpty = true) := by
  rw [List.isEmpty_iff, List.length_eq_zero_iff]

set_option maxHeartbeats 1000000 in
theorem Queue.off {w w1 w2 : World} {B m : Nat} {A : Nat → Nat} {d : Nat → Arr} {S : Nat} {cs : Array Value} {hs : Nat → List Nat} {ix : Nat → Nat} {F0 F1 : Nat} {ord : Bool} (Q : Queue w B m A d S cs hs ix F0 F1 ord) {i k x b cap F : Nat} (hi : i < 128) (hx : (hs i)[k]? = some x) (hk : ord = true → k = 0)
    (hv : cs[3 + i]? = some (.slice (some ⟨b, 0, none⟩) (hs i).length cap)) (hF : F = if i < 64 then F0 else F1) (hR : Removed B m A d S (3 + i) cs b cap (hs i) ix k x w w1)
    (hE : Blk w2 S (if (hs i).length - 1 = 0 then (cs.setIfInBounds (3 + i) (.slice (some ⟨b, 0, none⟩) ((hs i).length - 1) cap)).setIfInBounds (131 + i / 64) (.int .u64 (clr F (i % 64))) else cs.setIfInBounds (3 + i) (.slice (some ⟨b, 0, none⟩) ((hs i).length - 1) cap)) 51) (hf2 : Frm (fun k => k = S) w1 w2) : Off w B m A d S cs hs i x ord w2 := by
  obtain ⟨h', ix', r1, r2, r3, r4, r5, r6, r7, r8⟩ := hR
  have hkl : k < (hs i).length := (List.getElem?_eq_some_iff.1 hx).1
  have hz3 : 3 + i < cs.size := (Array.getElem?_eq_some_iff.1 hv).1
  have hz1 : 131 < cs.size := (Array.getElem?_eq_some_iff.1 Q.w0).1
  have hz2 : 132 < cs.size := (Array.getElem?_eq_some_iff.1 Q.w1).1
  obtain ⟨cs', hcs'⟩ : ∃ c, c = (if (hs i).length - 1 = 0 then (cs.setIfInBounds (3 + i) (.slice (some ⟨b, 0, none⟩) ((hs i).length - 1) cap)).setIfInBounds (131 + i / 64) (.int .u64 (clr F (i % 64))) else cs.setIfInBounds (3 + i) (.slice (some ⟨b, 0, none⟩) ((hs i).length - 1) cap)) := ⟨_, rfl⟩
  rw [← hcs'] at hE
  have g3 : ∀ j, j ≠ 3 + i → j ≠ 131 + i / 64 → cs'[j]? = cs[j]? := fun j h1 h2 => by
    rw [hcs']
    split
    · rw [Array.getElem?_setIfInBounds_ne (Ne.symm h2), Array.getElem?_setIfInBounds_ne (Ne.symm h1)]
    · rw [Array.getElem?_setIfInBounds_ne (Ne.symm h1)]
  have gi : cs'[3 + i]? = some (.slice (some ⟨b, 0, none⟩) ((hs i).length - 1) cap) := by
    rw [hcs']
    split
    · rw [Array.getElem?_setIfInBounds_ne (by omega), Array.getElem?_setIfInBounds_self_of_lt hz3]
    · rw [Array.getElem?_setIfInBounds_self_of_lt hz3]
  have gs : cs'.size = cs.size := by
    rw [hcs']
    split <;> simp
  have hsl : ∀ j, j < 128 → j ≠ i → cs'[3 + j]? = cs[3 + j]? := fun j h1 h2 => g3 _ (by omega) (by omega)
  obtain ⟨F0', F1', gw0, gw1, gl0, gl1, gb0, gb1⟩ : ∃ F0' F1', cs'[131]? = some (.int .u64 (F0' : Nat)) ∧ cs'[132]? = some (.int .u64 (F1' : Nat)) ∧ F0' < 18446744073709551616 ∧ F1' < 18446744073709551616 ∧ (∀ j, j < 64 → F0'.testBit j = !(upd hs i h' j).isEmpty) ∧ (∀ j, j < 64 → F1'.testBit j = !(upd hs i h' (64 + j)).isEmpty) := by
    by_cases he : (hs i).length - 1 = 0
    · have he' : h' = [] := List.eq_nil_of_length_eq_zero (r4.trans he)
      by_cases h64 : i < 64
      · rw [if_pos h64] at hF
        refine ⟨clr F0 i, F1, ?_, ?_, clr_lt Q.l0, Q.l1, fun j hj => ?_, fun j hj => ?_⟩
        · rw [hcs', if_pos he, show 131 + i / 64 = 131 by omega, Array.getElem?_setIfInBounds_self_of_lt (by simp; omega), hF, Nat.mod_eq_of_lt h64]
        · rw [g3 132 (by omega) (by omega)]
          exact Q.w1
        · rw [clr_bit F0 i j h64 hj, Q.bit0 j hj]
          unfold upd
          by_cases e : j = i
          · simp [e, he']
          · simp [e]
        · rw [Q.bit1 j hj]
          unfold upd
          rw [if_neg (by omega)]
      · rw [if_neg h64] at hF
        refine ⟨F0, clr F1 (i - 64), ?_, ?_, Q.l0, clr_lt Q.l1, fun j hj => ?_, fun j hj => ?_⟩
        · rw [g3 131 (by omega) (by omega)]
          exact Q.w0
        · rw [hcs', if_pos he, show 131 + i / 64 = 132 by omega, Array.getElem?_setIfInBounds_self_of_lt (by simp; omega), hF, show i % 64 = i - 64 by omega]
        · rw [Q.bit0 j hj]
          unfold upd
          rw [if_neg (by omega)]
        · rw [clr_bit F1 (i - 64) j (by omega) hj, Q.bit1 j hj]
          unfold upd
          by_cases e : j = i - 64
          · have e' : 64 + j = i := by omega
            simp [e, he', show 64 + (i - 64) = i by omega]
          · have e' : ¬ 64 + j = i := by omega
            simp [e, e']
    · have hne : ∀ l : List Nat, l.length ≠ 0 → l.isEmpty = false := fun l hl => by
        cases l with
        | nil => exact absurd rfl hl
        | cons _ _ => rfl
      have hh1 : h'.isEmpty = false := hne _ (by omega)
      have hh2 : (hs i).isEmpty = false := hne _ (by omega)
      have g4 : ∀ j, j ≠ 3 + i → cs'[j]? = cs[j]? := fun j h1 => by
        rw [hcs', if_neg he, Array.getElem?_setIfInBounds_ne (Ne.symm h1)]
      refine ⟨F0, F1, (g4 131 (by omega)).trans Q.w0, (g4 132 (by omega)).trans Q.w1, Q.l0, Q.l1, fun j hj => ?_, fun j hj => ?_⟩
      · rw [Q.bit0 j hj]
        unfold upd
        by_cases e : j = i
        · rw [if_pos e, hh1, e, hh2]
        · rw [if_neg e]
      · rw [Q.bit1 j hj]
        unfold upd
        by_cases e : 64 + j = i
        · rw [if_pos e, hh1, e, hh2]
        · rw [if_neg e]
  have hbB : B ≤ b := (r3.row.lt b rfl).1
  have hfS : Frm (fun k => k = S ∨ (Value.slice (some ⟨b, 0, none⟩) (hs i).length cap).ownBlock = some k ∨ ∃ x, x < m ∧ k = A x) w w2 := by
    refine (r8.mono (fun j _ e => ?_)).trans hf2 (fun j _ e => .inl e)
    rcases e with e | e | e
    · exact .inr (.inl (by rw [e]; rfl))
    · exact .inl e
    · exact .inr (.inr e)
  refine ⟨cs', h', ix', F0', F1', _, ?_, r5, r4, fun j hj => g3 j (by omega) (by omega), hsl, gs, hv, fun u hu => ?_, hfS⟩
  · refine {
      blk := hE
      low := Q.low
      arr := r2.frm hf2 (fun y hy e => ?_)
      slot := fun j hj => ?_
      apart := fun j l hj hl hjl v u hv' hu' q hq => ?_
      mem := fun j hj y hy => ?_
      pos := fun j hj p y hy => ?_
      len := fun j hj => ?_
      w0 := gw0
      w1 := gw1
      l0 := gl0
      l1 := gl1
      bit0 := gb0
      bit1 := gb1
      heap := fun ho j hj => ?_ }
    · have h1 := Q.arr.blk y hy
      have h2 := Q.blk
      unfold Blk at h1 h2
      rw [e, h2] at h1
      injection h1 with h1
      injection h1 with _ h1
      exact absurd h1 (by decide)
    · unfold upd
      by_cases e : j = i
      · subst e
        rw [if_pos rfl]
        refine ⟨_, gi, ?_⟩
        have := hf2.owns r3.row (fun q hq e => by have := Q.low; have : b = q := Option.some.inj hq; omega)
        rw [r4] at this ⊢
        exact this
      · rw [if_neg e]
        obtain ⟨v, hv1, hv2⟩ := Q.slot j hj
        refine ⟨v, (hsl j hj e).trans hv1, hfS.owns hv2 (fun q hq e' => ?_)⟩
        rcases e' with e' | e' | ⟨y, hy, e'⟩
        · have := (hv2.lt q hq).1
          have := Q.low
          omega
        · exact Q.apart j i hj hi e v _ hv1 hv q hq e'
        · exact owns_blk hv2 (Q.arr.blk y hy) (by decide) (by rw [← e']; exact hq)
    · by_cases e1 : j = i
      · subst e1
        have hl' : l ≠ j := fun e => hjl e.symm
        rw [gi] at hv'
        rw [hsl l hl hl'] at hu'
        have hv'' := Option.some.inj hv'
        subst hv''
        exact Q.apart j l hj hl hjl _ u hv hu' q hq
      · by_cases e2 : l = i
        · subst e2
          rw [gi] at hu'
          rw [hsl j hj e1] at hv'
          have hu'' := Option.some.inj hu'
          subst hu''
          exact Q.apart j l hj hl hjl v _ hv' hv q hq
        · rw [hsl j hj e1] at hv'
          rw [hsl l hl e2] at hu'
          exact Q.apart j l hj hl hjl v u hv' hu' q hq
    · unfold upd at hy
      by_cases e : j = i
      · rw [if_pos e] at hy
        rw [e]
        exact Q.mem i hi y ((r5 y).1 hy).1
      · rw [if_neg e] at hy
        exact Q.mem j hj y hy
    · unfold upd at hy
      by_cases e : j = i
      · rw [if_pos e] at hy
        exact r3.pos p y hy
      · rw [if_neg e] at hy
        rw [r6 y (fun hy' => e (by rw [← (Q.mem j hj y (List.mem_of_getElem? hy)).2, ← (Q.mem i hi y hy').2]))]
        exact Q.pos j hj p y hy
    · unfold upd
      by_cases e : j = i
      · rw [if_pos e, r4]
        have := Q.len i hi
        omega
      · rw [if_neg e]
        exact Q.len j hj
    · unfold upd
      by_cases e : j = i
      · rw [if_pos e]
        exact r7 (hk ho) (Q.heap ho i hi)
      · rw [if_neg e]
        exact Q.heap ho j hj
  · rw [gi] at hu
    rw [← Option.some.inj hu]
    rfl
end Go.Proofs.YbulkaryoFmt
