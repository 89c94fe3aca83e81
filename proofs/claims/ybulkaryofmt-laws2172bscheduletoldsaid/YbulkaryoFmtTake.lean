/-
  arrivals.next and arrivals.remove.
-/
import Derived.Test.YbulkaryoFmtQueue
namespace Go.Proofs.YbulkaryoFmt
open Go.RowKit

theorem word_at {cs : Array Value} {i F0 F1 : Nat} (hi : i < 128) (h0 : cs[131]? = some (.int .u64 F0)) (h1 : cs[132]? = some (.int .u64 F1)) (v : Value) (o : Nat) (ho : o = 3 + i) : (cs.setIfInBounds o v)[131 + i / 64]? = some (.int .u64 ((if i < 64 then F0 else F1 : Nat) : Int)) := by
  rw [Array.getElem?_setIfInBounds_ne (by omega)]
  by_cases h : i < 64
  · rw [if_pos h, show 131 + i / 64 = 131 by omega]
    exact h0
  · rw [if_neg h, show 131 + i / 64 = 132 by omega]
    exact h1

theorem slotOf_lt (t : Nat) : slotOf t < 128 := Nat.mod_lt _ (by decide)

/-- A slot that holds one has a row. -/
theorem Queue.at_ {w : World} {B m : Nat} {A : Nat → Nat} {d : Nat → Arr} {S : Nat} {cs : Array Value} {hs : Nat → List Nat} {ix : Nat → Nat} {F0 F1 : Nat} {ord : Bool} (Q : Queue w B m A d S cs hs ix F0 F1 ord) {i k x : Nat} (hi : i < 128) (hx : (hs i)[k]? = some x) : ∃ b cap, cs[3 + i]? = some (.slice (some ⟨b, 0, none⟩) (hs i).length cap) ∧ Hp w B m A b cap (hs i) ix := by
  obtain ⟨v, h1, h2⟩ := Q.slot i hi
  have hl : k < (hs i).length := (List.getElem?_eq_some_iff.1 hx).1
  obtain ⟨p, cap, rfl, _, _, hp⟩ := owns_form h2
  obtain ⟨b, rfl⟩ := hp (by omega)
  exact ⟨b, cap, h1, h2, fun y hy => (Q.mem i hi y hy).1, Q.pos i hi⟩

set_option maxRecDepth 100000 in
set_option maxHeartbeats 1000000 in
theorem qnext_ok (now i x : Nat) (B m : Nat) (A : Nat → Nat) (d : Nat → Arr) (S : Nat) (cs : Array Value) (hs : Nat → List Nat) (ix : Nat → Nat) (F0 F1 : Nat) (w : World) (Q : Queue w B m A d S cs hs ix F0 F1 true) (hnow : now ≤ 10000000) (hm : m ≤ 1024) (hne : F0 ≠ 0 ∨ F1 ≠ 0) (hT : TabAt w) (hi : i = ff (slotOf now) F0 F1) (hi2 : i < 128) (hx : (hs i)[0]? = some x) :
    Calls Ybaf.prog 10 #[.pointer (some ⟨S, 3, none⟩), .int .i64 now] w fun en w' => en = .returned (.pointer (some ⟨A x, 0, none⟩)) ∧ Off w B m A d S cs hs i x true w' := by
  obtain ⟨b, cap, hv, hH⟩ := Q.at_ hi2 hx
  have hlen := Q.len i hi2
  have hii : (i : Int) < 128 := by omega
  have hi0 : (0 : Int) ≤ i := by omega
  go_enter Ybaf.func10, Ybaf.ntmps10
  go_wp2_with fail
  refine (slot_ok now _ hnow).mono ?_
  rintro e w1 ⟨rfl, hw1⟩
  rw [hw1]
  clear hw1 w1
  go_wp2_with fail
  refine (firstFull_ok S cs (slotOf now) F0 F1 w Q.blk Q.w0 Q.w1 (slotOf_lt _) Q.l0 Q.l1 hne hT).mono ?_
  rintro e w1 ⟨rfl, hw1⟩
  rw [hw1, ← hi]
  clear hw1 w1
  have HQ : Hid (Queue w B m A d S cs hs ix F0 F1 true) := Q
  have HI : Hid (i = ff (slotOf now) F0 F1) := hi
  clear Q hi
  go_wp2_with fail
  refine (pop_ok B m A d S (3 + i) cs b cap (hs i) ix x w HQ.out.blk hv HQ.out.arr hH hx (by omega) hm).mono ?_
  rintro e w1 ⟨rfl, hR⟩
  have hR' := hR
  obtain ⟨h', ix', r1, _⟩ := hR'
  have hz3 : 3 + i < cs.size := (Array.getElem?_eq_some_iff.1 hv).1
  have HR : Hid (Removed B m A d S (3 + i) cs b cap (hs i) ix 0 x w w1) := hR
  have HB : Hid (Blk w1 S (cs.setIfInBounds (3 + i) (.slice (some ⟨b, 0, none⟩) ((hs i).length - 1) cap)) 51) := r1
  clear hR r1
  go_wp2_with fail
  refine (emptied_ok S _ i ((hs i).length - 1) cap (if i < 64 then F0 else F1) (some ⟨b, 0, none⟩) w1 HB.out hi2 (Array.getElem?_setIfInBounds_self_of_lt hz3) (word_at hi2 HQ.out.w0 HQ.out.w1 _ _ rfl) (by split; exact HQ.out.l0; exact HQ.out.l1)).mono ?_
  rintro e w2 ⟨rfl, hE, hf2⟩
  have hoff : Hid (Off w B m A d S cs hs i x true w2) := HQ.out.off hi2 hx (fun _ => rfl) hv rfl HR.out hE hf2
  clear hE hf2
  go_wp2_with fail
  go_ret
  exact ⟨rfl, hoff.out⟩

set_option maxRecDepth 100000 in
set_option maxHeartbeats 1000000 in
theorem qremove_ok (x : Nat) (B m : Nat) (A : Nat → Nat) (d : Nat → Arr) (S : Nat) (cs : Array Value) (hs : Nat → List Nat) (ix : Nat → Nat) (F0 F1 : Nat) (w : World) (Q : Queue w B m A d S cs hs ix F0 F1 false) (hm : m ≤ 1024) (hat : (d x).at_ ≤ 10000000) (hx : x ∈ hs (slotOf (d x).at_)) :
    Calls Ybaf.prog 14 #[.pointer (some ⟨S, 3, none⟩), .pointer (some ⟨A x, 0, none⟩)] w fun en w' => en = .returned (.tuple #[]) ∧ Off w B m A d S cs hs (slotOf (d x).at_) x false w' := by
  have hi2 := slotOf_lt (d x).at_
  obtain ⟨i, hi⟩ : ∃ i, i = slotOf (d x).at_ := ⟨_, rfl⟩
  rw [← hi] at hx hi2 ⊢
  obtain ⟨k, hk⟩ := List.mem_iff_getElem?.1 hx
  obtain ⟨b, cap, hv, hH⟩ := Q.at_ hi2 hk
  have hlen := Q.len _ hi2
  have hpx := Q.pos _ hi2 k x hk
  have hxm := (Q.mem _ hi2 x hx).1
  have a0 := ((Q.arr.blk x hxm).cell 0).trans (show _ = some (.int .i64 ((d x).at_ : Int)) from rfl)
  have a9 := ((Q.arr.blk x hxm).cell 9).trans (show _ = some (.int .i64 (ix x : Int)) from rfl)
  rw [hpx] at a9
  go_enter Ybaf.func14, Ybaf.ntmps14
  go_wp2_with fail
  refine (slot_ok (d x).at_ _ hat).mono ?_
  rintro e w1 ⟨rfl, hw1⟩
  rw [hw1, ← hi]
  clear hw1 w1 hi
  have HQ : Hid (Queue w B m A d S cs hs ix F0 F1 false) := Q
  clear Q
  have hii : (i : Int) < 128 := by omega
  have hi0 : (0 : Int) ≤ i := by omega
  have hz3 : 3 + i < cs.size := (Array.getElem?_eq_some_iff.1 hv).1
  go_upto_region 1 with fail
  go_region_with (first
    | (go_at_call 23; refine (removeAt_ok B m A d S (3 + i) cs b cap (hs i) ix k x _ (by exact HQ.out.blk) hv (by exact ⟨fun y hy => HQ.out.arr.blk y hy, HQ.out.arr.inj⟩) (by exact ⟨hH.row, hH.mem, hH.pos⟩) hk (by omega) hm).mono ?_; rintro e w1 ⟨rfl, hR⟩))
  obtain ⟨h', ix', r1, r2, r3, r4, r5, r6, r7, r8⟩ := hR
  have HR : Hid (Removed B m A d S (3 + i) cs b cap (hs i) ix k x w w1) := ⟨h', ix', r1, r2, r3, r4, r5, r6, r7, (Frm.refl _ w).drew.trans r8 (fun _ _ h => h)⟩
  have HB : Hid (Blk w1 S (cs.setIfInBounds (3 + i) (.slice (some ⟨b, 0, none⟩) ((hs i).length - 1) cap)) 51) := r1
  clear r1 r2 r3 r4 r5 r6 r7 r8
  go_wp2_with fail
  refine (emptied_ok S _ i ((hs i).length - 1) cap (if i < 64 then F0 else F1) (some ⟨b, 0, none⟩) w1 HB.out hi2 (Array.getElem?_setIfInBounds_self_of_lt hz3) (word_at hi2 HQ.out.w0 HQ.out.w1 _ _ rfl) (by split; exact HQ.out.l0; exact HQ.out.l1)).mono ?_
  rintro e w2 ⟨rfl, hE, hf2⟩
  have hoff : Hid (Off w B m A d S cs hs i x false w2) := HQ.out.off hi2 hk (fun h => by cases h) hv rfl HR.out hE hf2
  clear hE hf2
  go_wp2_with fail
  go_end0
  exact ⟨rfl, hoff.out⟩

/-! ### The least of all -/
theorem heap_root {f : Nat → Nat} {L : Nat} (h : HeapF f L) : ∀ p, p < L → f 0 ≤ f p := by
  intro p
  induction p using Nat.strongRecOn with
  | ind p ih =>
    intro hp
    rcases Nat.eq_zero_or_pos p with e | e
    · rw [e]
      exact Nat.le_refl _
    · have h1 := ih ((p - 1) / 2) (by omega) (by omega)
      have h2 := h p e hp
      omega
theorem isEmpty_false {l : List Nat} {x : Nat} (h : x ∈ l) : l.isEmpty = false := by
  cases l with
  | nil => cases h
  | cons _ _ => rfl
theorem word_ne {F i : Nat} (h : F.testBit i = true) : F ≠ 0 := fun e => by
  rw [e] at h
  simp at h

/-- The first full slot's first arrival is the least. -/
theorem Queue.least {w : World} {B m : Nat} {A : Nat → Nat} {d : Nat → Arr} {S : Nat} {cs : Array Value} {hs : Nat → List Nat} {ix : Nat → Nat} {F0 F1 : Nat} (Q : Queue w B m A d S cs hs ix F0 F1 true) {now z : Nat} (hm : m ≤ 1024) (hat : ∀ x, x < m → (d x).at_ ≤ 10000000) (hge : ∀ i, i < 128 → ∀ x, x ∈ hs i → now ≤ (d x).at_) (hz : z < 128) (hzn : hs z ≠ []) :
    (F0 ≠ 0 ∨ F1 ≠ 0) ∧ ff (slotOf now) F0 F1 < 128 ∧ ∃ x, (hs (ff (slotOf now) F0 F1))[0]? = some x ∧ ∀ i, i < 128 → ∀ y, y ∈ hs i → key d x ≤ key d y := by
  have hsl : ∀ x, x < m → slotOf (d x).at_ = (d x).at_ / 156250 := fun x hx => by
    have := hat x hx
    unfold slotOf
    omega
  have hnow : ∀ i, i < 128 → hs i ≠ [] → slotOf now ≤ i ∧ i ≤ 64 ∧ now ≤ 10000000 := fun i hi hn => by
    obtain ⟨y, ys, e⟩ := List.exists_cons_of_ne_nil hn
    have hy : y ∈ hs i := by rw [e]; exact List.mem_cons_self
    obtain ⟨h1, h2⟩ := Q.mem i hi y hy
    have h3 := hsl y h1
    have h4 := hge i hi y hy
    have h5 := hat y h1
    refine ⟨?_, by omega, by omega⟩
    rw [← h2, h3]
    unfold slotOf
    omega
  have hb : ∀ i, i < 128 → hs i ≠ [] → (i < 64 → F0.testBit i = true) ∧ (64 ≤ i → F1.testBit (i - 64) = true) := fun i hi hn => by
    have he : (hs i).isEmpty = false := by
      cases h : hs i with
      | nil => exact absurd h hn
      | cons _ _ => rfl
    refine ⟨fun h => by rw [Q.bit0 i h, he]; rfl, fun h => by rw [Q.bit1 (i - 64) (by omega), show 64 + (i - 64) = i by omega, he]; rfl⟩
  have hfull : ∀ i, i < 64 → F0.testBit i = true → hs i ≠ [] := fun i hi h => by
    rw [Q.bit0 i hi] at h
    intro e
    rw [e] at h
    cases h
  have hfull1 : ∀ i, i < 64 → F1.testBit i = true → hs (64 + i) ≠ [] := fun i hi h => by
    rw [Q.bit1 i hi] at h
    intro e
    rw [e] at h
    cases h
  have hne : F0 ≠ 0 ∨ F1 ≠ 0 := by
    by_cases h : z < 64
    · exact .inl (word_ne ((hb z hz hzn).1 h))
    · exact .inr (word_ne ((hb z hz hzn).2 (by omega)))
  -- the first full slot is the least that is full
  have hmin : ff (slotOf now) F0 F1 < 128 ∧ hs (ff (slotOf now) F0 F1) ≠ [] ∧ ∀ i, i < 128 → hs i ≠ [] → ff (slotOf now) F0 F1 ≤ i := by
    have c0 : F0 ≠ 0 → Lib.ctz 64 F0 < 128 ∧ hs (Lib.ctz 64 F0) ≠ [] ∧ ∀ i, i < 128 → hs i ≠ [] → Lib.ctz 64 F0 ≤ i := fun h => by
      obtain ⟨b1, b2, b3⟩ := ctz_bits F0 h Q.l0
      refine ⟨by omega, hfull _ b3 b1, fun i hi hn => ?_⟩
      rcases Nat.lt_or_ge i (Lib.ctz 64 F0) with hl | hl
      · have h1 := (hb i hi hn).1 (by omega)
        rw [b2 i hl] at h1
        cases h1
      · exact hl
    have c1 : F1 ≠ 0 → (∀ i, i < 64 → hs i = []) → 64 + Lib.ctz 64 F1 < 128 ∧ hs (64 + Lib.ctz 64 F1) ≠ [] ∧ ∀ i, i < 128 → hs i ≠ [] → 64 + Lib.ctz 64 F1 ≤ i := fun h hno => by
      obtain ⟨b1, b2, b3⟩ := ctz_bits F1 h Q.l1
      refine ⟨by omega, hfull1 _ b3 b1, fun i hi hn => ?_⟩
      rcases Nat.lt_or_ge i 64 with h64 | h64
      · exact absurd (hno i h64) hn
      · rcases Nat.lt_or_ge (i - 64) (Lib.ctz 64 F1) with hl | hl
        · have h1 := (hb i hi hn).2 h64
          rw [b2 _ hl] at h1
          cases h1
        · omega
    have hno0 : F0 = 0 → ∀ i, i < 64 → hs i = [] := fun h i hi => by
      cases e : hs i with
      | nil => rfl
      | cons y ys =>
        have := (hb i (by omega) (by rw [e]; exact List.cons_ne_nil _ _)).1 hi
        rw [h] at this
        simp at this
    unfold ff
    by_cases hs64 : slotOf now < 64
    · rw [if_pos hs64]
      by_cases hF : F0 = 0
      · rw [if_pos hF]
        exact c1 (hne.resolve_left (fun h => h hF)) (hno0 hF)
      · rw [if_neg hF]
        exact c0 hF
    · rw [if_neg hs64]
      have hno : ∀ i, i < 64 → hs i = [] := fun i hi => by
        cases e : hs i with
        | nil => rfl
        | cons y ys =>
          have := (hnow i (by omega) (by rw [e]; exact List.cons_ne_nil _ _)).1
          omega
      have hz64 : 64 ≤ z := by
        rcases Nat.lt_or_ge z 64 with h | h
        · exact absurd (hno z h) hzn
        · exact h
      have hF1 : F1 ≠ 0 := word_ne ((hb z hz hzn).2 hz64)
      rw [if_neg hF1]
      exact c1 hF1 hno
  obtain ⟨m1, m2, m3⟩ := hmin
  refine ⟨hne, m1, ?_⟩
  generalize ff (slotOf now) F0 F1 = i at m1 m2 m3
  obtain ⟨x, xs, e⟩ := List.exists_cons_of_ne_nil m2
  have hx : (hs i)[0]? = some x := by rw [e]; rfl
  have hxi := Q.mem i m1 x (List.mem_of_getElem? hx)
  refine ⟨x, hx, fun j hj y hy => ?_⟩
  obtain ⟨hy1, hy2⟩ := Q.mem j hj y hy
  by_cases hji : j = i
  · subst hji
    obtain ⟨p, hp⟩ := List.mem_iff_getElem?.1 hy
    have hpl : p < (hs j).length := (List.getElem?_eq_some_iff.1 hp).1
    have := heap_root (Q.heap rfl j m1) p hpl
    rw [fOf_at hx, fOf_at hp] at this
    exact this
  · have h1 := m3 j hj (by intro e'; rw [e'] at hy; cases hy)
    have h2 := hsl x hxi.1
    have h3 := hsl y hy1
    have h4 : (d x).at_ < (d y).at_ := by omega
    unfold key
    omega
end Go.Proofs.YbulkaryoFmt
