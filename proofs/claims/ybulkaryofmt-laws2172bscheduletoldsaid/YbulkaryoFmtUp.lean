/-
  slotHeap.up and slotHeap.down.
-/
import Derived.Test.YbulkaryoFmtHeap
namespace Go.Proofs.YbulkaryoFmt
open Go.RowKit

/-! ### The order of a heap, with no Go in sight -/
def HeapF (f : Nat → Nat) (L : Nat) : Prop := ∀ i, 0 < i → i < L → f ((i - 1) / 2) ≤ f i
def UpInv (f : Nat → Nat) (L k : Nat) : Prop := (∀ i, 0 < i → i < L → i ≠ k → f ((i - 1) / 2) ≤ f i) ∧ (0 < k → ∀ i, 0 < i → i < L → (i - 1) / 2 = k → f ((k - 1) / 2) ≤ f i)
def DownInv (f : Nat → Nat) (L k : Nat) : Prop := (∀ i, 0 < i → i < L → (i - 1) / 2 ≠ k → f ((i - 1) / 2) ≤ f i) ∧ (0 < k → ∀ i, 0 < i → i < L → (i - 1) / 2 = k → f ((k - 1) / 2) ≤ f i)

theorem sig_l (i j : Nat) (h : i ≠ j) : sig i j i = j := by simp [sig, h]
theorem sig_r (i j : Nat) : sig i j j = i := by simp [sig]
theorem sig_o {i j k : Nat} (h1 : k ≠ i) (h2 : k ≠ j) : sig i j k = k := by simp [sig, h1, h2]

theorem UpInv.step {f : Nat → Nat} {L k : Nat} (h : UpInv f L k) (hk : 0 < k) (hL : k < L) (hlt : f k < f ((k - 1) / 2)) : UpInv (fun x => f (sig k ((k - 1) / 2) x)) L ((k - 1) / 2) := by
  obtain ⟨h1, h2⟩ := h
  have hpk : k ≠ (k - 1) / 2 := by omega
  generalize hp : (k - 1) / 2 = p at *
  refine ⟨fun i hi0 hiL hip => ?_, fun hp0 i hi0 hiL hiq => ?_⟩
  · show f (sig k p ((i - 1) / 2)) ≤ f (sig k p i)
    by_cases hik : i = k
    · subst hik
      rw [hp, sig_r, sig_l _ _ hpk]
      omega
    · rw [sig_o hik hip]
      by_cases hq1 : (i - 1) / 2 = p
      · have := h1 i hi0 hiL hik
        rw [hq1] at this ⊢
        rw [sig_r]
        omega
      · by_cases hq2 : (i - 1) / 2 = k
        · rw [hq2, sig_l _ _ hpk]
          exact h2 hk i hi0 hiL hq2
        · rw [sig_o hq2 hq1]
          exact h1 i hi0 hiL hik
  · show f (sig k p ((p - 1) / 2)) ≤ f (sig k p i)
    have hpp := h1 p hp0 (by omega) (by omega)
    rw [sig_o (by omega) (by omega)]
    by_cases hik : i = k
    · subst hik
      rw [sig_l _ _ hpk]
      exact hpp
    · rw [sig_o hik (by omega)]
      have := h1 i hi0 hiL hik
      rw [hiq] at this
      omega
theorem UpInv.done {f : Nat → Nat} {L k : Nat} (h : UpInv f L k) (hk : k = 0 ∨ f ((k - 1) / 2) ≤ f k) : HeapF f L := fun i hi0 hiL => by
  by_cases e : i = k
  · subst e
    rcases hk with hk | hk
    · omega
    · exact hk
  · exact h.1 i hi0 hiL e
theorem DownInv.step {f : Nat → Nat} {L k c : Nat} (h : DownInv f L k) (hc0 : 0 < c) (hcL : c < L) (hck : (c - 1) / 2 = k) (hlt : f c < f k) (hmin : ∀ i, 0 < i → i < L → (i - 1) / 2 = k → f c ≤ f i) : DownInv (fun x => f (sig k c x)) L c := by
  obtain ⟨h1, h2⟩ := h
  have hkc : k ≠ c := by omega
  refine ⟨fun i hi0 hiL hiq => ?_, fun _ i hi0 hiL hiq => ?_⟩
  · show f (sig k c ((i - 1) / 2)) ≤ f (sig k c i)
    by_cases hic : i = c
    · subst hic
      rw [hck, sig_l _ _ hkc, sig_r]
      omega
    · by_cases hq : (i - 1) / 2 = k
      · rw [hq, sig_l _ _ hkc, sig_o (by omega) hic]
        exact hmin i hi0 hiL hq
      · by_cases hik : i = k
        · subst hik
          rw [sig_o (by omega) (by omega), sig_l _ _ hkc]
          exact h2 hi0 c hc0 hcL hck
        · rw [sig_o hq hiq, sig_o hik hic]
          exact h1 i hi0 hiL hq
  · show f (sig k c ((c - 1) / 2)) ≤ f (sig k c i)
    rw [hck, sig_l _ _ hkc, sig_o (by omega) (by omega)]
    have := h1 i hi0 hiL (by omega)
    rw [hiq] at this
    exact this
theorem DownInv.done {f : Nat → Nat} {L k : Nat} (h : DownInv f L k) (hk : ∀ i, 0 < i → i < L → (i - 1) / 2 = k → f k ≤ f i) : HeapF f L := fun i hi0 hiL => by
  by_cases e : (i - 1) / 2 = k
  · have := hk i hi0 hiL e
    rw [e]
    exact this
  · exact h.1 i hi0 hiL e

def fOf (d : Nat → Arr) (h : List Nat) (i : Nat) : Nat := key d (h.getD i 0)
theorem fOf_swap {d : Nat → Arr} {h : List Nat} {i j : Nat} (hi : i < h.length) (hj : j < h.length) : fOf d (swapL h i j) = fun x => fOf d h (sig i j x) := by
  funext x
  unfold fOf
  rw [List.getD, List.getD, swapL_get hi hj]
theorem fOf_at {d : Nat → Arr} {h : List Nat} {i x : Nat} (hx : h[i]? = some x) : fOf d h i = key d x := by
  unfold fOf
  rw [List.getD, hx]
  rfl

/-! ### What a call on a heap leaves -/
structure Moved (B m : Nat) (A : Nat → Nat) (d : Nat → Arr) (b cap : Nat) (h : List Nat) (ix : Nat → Nat) (w : World) (h' : List Nat) (ix' : Nat → Nat) (w' : World) : Prop where
  len : h'.length = h.length
  mem : ∀ x, x ∈ h' ↔ x ∈ h
  arr : Arrs w' m A d ix'
  hp : Hp w' B m A b cap h' ix'
  out : ∀ x, x ∉ h → ix' x = ix x
  frm : Frm (fun k => k = b ∨ ∃ x, x < m ∧ k = A x) w w'

section
variable {B m : Nat} {A : Nat → Nat} {d : Nat → Arr} {b cap : Nat} {h h' : List Nat} {ix ix' : Nat → Nat} {w w' w2 : World}
theorem Moved.refl (hA : Arrs w m A d ix) (hH : Hp w B m A b cap h ix) : Moved B m A d b cap h ix w h ix w := ⟨rfl, fun _ => Iff.rfl, hA, hH, fun _ _ => rfl, Frm.refl _ _⟩
theorem Moved.drewN (hM : Moved B m A d b cap h ix w h' ix' w') (q : Nat) : Moved B m A d b cap h ix w h' ix' (w'.drewN q) :=
  ⟨hM.len, hM.mem, ⟨hM.arr.blk, hM.arr.inj⟩, ⟨hM.hp.row, hM.hp.mem, hM.hp.pos⟩, hM.out, hM.frm.drewN q⟩
theorem Moved.swap (hM : Moved B m A d b cap h ix w h' ix' w') {i j : Nat} (hi : i < h'.length) (hj : j < h'.length) (hS : Swapped B m A d b cap h' ix' i j w' w2) : ∃ ix2, Moved B m A d b cap h ix w (swapL h' i j) ix2 w2 := by
  obtain ⟨ix2, h1, h2, h3, h4⟩ := hS
  exact ⟨ix2, by rw [swapL_length]; exact hM.len, fun x => (swapL_mem hi hj x).trans (hM.mem x), h1, h2, fun x hx => (h3 x (fun hx' => hx ((hM.mem x).1 hx'))).trans (hM.out x hx), hM.frm.trans h4 (fun _ _ h => h)⟩
theorem Hp.cell (hH : Hp w B m A b cap h ix) {i x : Nat} (hx : h[i]? = some x) : w.cell? ⟨b, i, none⟩ = some (.pointer (some ⟨A x, 0, none⟩)) := by
  have hi : i < h.length := (List.getElem?_eq_some_iff.1 hx).1
  have := hH.row.cellAt i (by omega)
  rw [this, List.getElem?_map, hx]
  rfl
end

theorem before_q (v : Bool) (A : Nat → Nat) (d : Nat → Arr) (a b ia ib : Nat) (w : World) (hv : decide (key d a < key d b) = v) (ha : Blk w (A a) (arrCells (d a) a ia) 34) (hb : Blk w (A b) (arrCells (d b) b ib) 34) (la : a < 1024) (lb : b < 1024) :
    Calls Ybaf.prog 24 #[.pointer (some ⟨A a, 0, none⟩), .pointer (some ⟨A b, 0, none⟩)] w fun en w' => en = .returned (.bool v) ∧ ∃ q, w' = w.drewN q := by
  rw [← hv]
  exact before_ok A d a b ia ib w ha hb la lb

/-- Behind up. -/
structure Upped (B m : Nat) (A : Nat → Nat) (d : Nat → Arr) (b cap : Nat) (h : List Nat) (ix : Nat → Nat) (k : Nat) (w : World) (k' : Nat) (w' : World) : Prop where
  ex : ∃ h' ix', Moved B m A d b cap h ix w h' ix' w' ∧ (k = 0 → k' = 0 ∧ h' = h) ∧ (UpInv (fOf d h) h.length k → HeapF (fOf d h') h.length)

set_option maxRecDepth 100000 in
set_option maxHeartbeats 1000000 in
theorem up_ok (B m : Nat) (A : Nat → Nat) (d : Nat → Arr) (b cap : Nat) (h : List Nat) (ix : Nat → Nat) (k : Nat) (w : World) (hA : Arrs w m A d ix) (hH : Hp w B m A b cap h ix) (hk : k < h.length) (hl : h.length ≤ 1024) (hm : m ≤ 1024) :
    Calls Ybaf.prog 16 #[.slice (some ⟨b, 0, none⟩) h.length cap, .int .i64 k] w fun en w' => ∃ k' : Nat, en = .returned (.int .i64 k') ∧ k' < h.length ∧ Upped B m A d b cap h ix k w k' w' := by
  have hl' : (h.length : Int) ≤ 1024 := by omega
  go_enter Ybaf.func16, Ybaf.ntmps16
  go_wp2_with fail
  go_loopw [1] (fun vk wr => ∃ (k' : Nat) (h' : List Nat) (ix' : Nat → Nat), vk = .int .i64 k' ∧ k' < h.length ∧ Moved B m A d b cap h ix w h' ix' wr ∧ (k = 0 → k' = 0 ∧ h' = h) ∧ (UpInv (fOf d h) h.length k → UpInv (fOf d h') h.length k')) (fun vk _ => (intOf vk).toNat)
  case atStart => exact ⟨k, h, ix, rfl, hk, Moved.refl hA hH, fun h => ⟨h, rfl⟩, fun h => h⟩
  case round =>
    obtain ⟨k', h', ix', rfl, hk', hM, h0, hU⟩ := hrel
    have hlen := hM.len
    by_cases hpos : 0 < k'
    · have hpos' : (0 : Int) < k' := by omega
      have hk2 : (k' : Int) < h.length := by omega
      have hkne : k ≠ 0 := fun e => by have := (h0 e).1; omega
      obtain ⟨x, hx⟩ : ∃ x, h'[k']? = some x := ⟨h'[k'], by simp [hlen, hk']⟩
      obtain ⟨y, hy⟩ : ∃ y, h'[(k' - 1) / 2]? = some y := ⟨h'[(k' - 1) / 2], by simp⟩
      have hxm := hM.hp.mem x (List.mem_of_getElem? hx)
      have hym := hM.hp.mem y (List.mem_of_getElem? hy)
      have hx1 : x < 1024 := by omega
      have hy1 : y < 1024 := by omega
      have cx := hM.hp.cell hx
      have cy := hM.hp.cell hy
      have bx : ∀ q, Blk (wr.drewN q) (A x) (arrCells (d x) x (ix' x)) 34 := fun q => hM.arr.blk x hxm
      have bY : ∀ q, Blk (wr.drewN q) (A y) (arrCells (d y) y (ix' y)) 34 := fun q => hM.arr.blk y hym
      have fx := fOf_at (d := d) hx
      have fy := fOf_at (d := d) hy
      go_upto_region 3 with fail
      go_name_slot 5 pI hpI
      obtain ⟨p, hp⟩ : ∃ p : Nat, p = (k' - 1) / 2 := ⟨_, rfl⟩
      rw [← hp] at hy cy fy
      have hpI' : pI = (p : Int) := by omega
      have hpk : p < k' := by omega
      clear hpI
      subst hpI'
      have hp0 : (0 : Int) ≤ p := by omega
      have hpl : (p : Int) < h.length := by omega
      have hpH : Hid (p = (k' - 1) / 2) := hp
      have hpk' : ¬ (k' : Int) = p := by omega
      clear hp
      by_cases hlt : key d x < key d y
      · have hdec := decide_eq_true hlt
        have stepU : UpInv (fOf d h) h.length k → UpInv (fOf d (swapL h' k' p)) h.length p := fun hh => by
          have h1 := hU hh
          rw [fOf_swap (by omega) (by omega), hpH.out]
          exact h1.step hpos (by omega) (by rw [← hpH.out, fx, fy]; exact hlt)
        clear hU fx fy
        have hM' : Hid (Moved B m A d b cap h ix w h' ix' wr) := hM
        clear hM hA hH
        go_quiet (first | (go_at_call 24; exact Calls.quiet_of (before_q true A d x y _ _ _ hdec (bx _) (bY _) hx1 hy1)))
        go_wp2_with fail
        rw [← hlen]
        refine (swap_ok B m A d b cap h' ix' k' p _ (hM'.out.drewN _).arr (hM'.out.drewN _).hp (by omega) (by omega) (by omega) (by omega)).mono ?_
        rintro e w2 ⟨rfl, hS⟩
        obtain ⟨ix2, hM2⟩ := (hM'.out.drewN _).swap (by omega) (by omega) hS
        rw [hlen]
        have hM2' : Hid (Moved B m A d b cap h ix w (swapL h' k' p) ix2 w2) := hM2
        clear hS hM2
        go_wp2_with fail
        exact ⟨⟨p, swapL h' k' p, ix2, rfl, by omega, hM2'.out, fun e => absurd e hkne, stepU⟩, by simp [intOf]; omega⟩
      · have hdec := decide_eq_false hlt
        have endU : UpInv (fOf d h) h.length k → HeapF (fOf d h') h.length := fun hh => (hU hh).done (.inr (by rw [← hpH.out, fx, fy]; omega))
        clear hU fx fy
        have hM' : Hid (Moved B m A d b cap h ix w h' ix' wr) := hM
        clear hM hA hH
        go_quiet (first | (go_at_call 24; exact Calls.quiet_of (before_q false A d x y _ _ _ hdec (bx _) (bY _) hx1 hy1)))
        go_wp2_with fail
        go_ret
        exact ⟨k', rfl, by omega, ⟨h', ix', hM'.out.drewN _, fun e => absurd e hkne, endU⟩⟩
    · have hpos' : ¬ (0 : Int) < k' := by omega
      have hend : Hid (Upped B m A d b cap h ix k w k' wr) := ⟨h', ix', hM, h0, fun hh => (hU hh).done (.inl (by omega))⟩
      clear hM h0 hU hA hH
      go_wp2_with fail
      go_ret
      exact ⟨k', rfl, by omega, hend.out⟩
end Go.Proofs.YbulkaryoFmt
