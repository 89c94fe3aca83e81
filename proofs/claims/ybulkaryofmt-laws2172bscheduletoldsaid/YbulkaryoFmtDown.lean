/-
  slotHeap.down.
-/
import Derived.Test.YbulkaryoFmtUp
namespace Go.Proofs.YbulkaryoFmt
open Go.RowKit

theorem index96_0 (x y : Int) (w : World) : (Instr.index 96 (.agg #[.int .i64 x, .int .i64 y]) (.int .i64 0)).run Ybaf.prog w = .ok (.int .i64 x) w := by
  simp [Instr.index, run_underlying Ybaf.underlying96, asIntOf, go_sem]
theorem index96_1 (x y : Int) (w : World) : (Instr.index 96 (.agg #[.int .i64 x, .int .i64 y]) (.int .i64 1)).run Ybaf.prog w = .ok (.int .i64 y) w := by
  simp [Instr.index, run_underlying Ybaf.underlying96, asIntOf, go_sem]
def better (f : Nat → Nat) (L c i : Nat) : Nat := if i < L ∧ f i < f c then i else c
theorem better_lt {f : Nat → Nat} {L c i : Nat} (h : c < L) : better f L c i < L := by
  unfold better
  split <;> omega
theorem best_of {f : Nat → Nat} {L k c1 c2 : Nat} (h1 : c1 = better f L k (2 * k + 1)) (h2 : c2 = better f L c1 (2 * k + 2)) :
    (c2 = k ∨ ((c2 - 1) / 2 = k ∧ 0 < c2 ∧ f c2 < f k)) ∧ ∀ i, 0 < i → i < L → (i - 1) / 2 = k → f c2 ≤ f i := by
  unfold better at h1 h2
  have hi : ∀ i, 0 < i → (i - 1) / 2 = k → i = 2 * k + 1 ∨ i = 2 * k + 2 := fun i _ _ => by omega
  by_cases a : 2 * k + 1 < L ∧ f (2 * k + 1) < f k
  · rw [if_pos a] at h1
    subst h1
    by_cases b : 2 * k + 2 < L ∧ f (2 * k + 2) < f (2 * k + 1)
    · rw [if_pos b] at h2
      subst h2
      refine ⟨.inr ⟨by omega, by omega, by omega⟩, fun i h0 hL hk => ?_⟩
      rcases hi i h0 hk with e | e
      · rw [e]; omega
      · rw [e]; omega
    · rw [if_neg b] at h2
      subst h2
      refine ⟨.inr ⟨by omega, by omega, by omega⟩, fun i h0 hL hk => ?_⟩
      rcases hi i h0 hk with e | e
      · rw [e]; omega
      · rw [e] at hL ⊢; omega
  · rw [if_neg a] at h1
    subst h1
    by_cases b : 2 * c1 + 2 < L ∧ f (2 * c1 + 2) < f c1
    · rw [if_pos b] at h2
      subst h2
      refine ⟨.inr ⟨by omega, by omega, by omega⟩, fun i h0 hL hk => ?_⟩
      rcases hi i h0 hk with e | e
      · rw [e] at hL ⊢; omega
      · rw [e]; omega
    · rw [if_neg b] at h2
      subst h2
      refine ⟨.inl rfl, fun i h0 hL hk => ?_⟩
      rcases hi i h0 hk with e | e
      · rw [e] at hL ⊢; omega
      · rw [e] at hL ⊢; omega

/-- Behind down. -/
structure Downed (B m : Nat) (A : Nat → Nat) (d : Nat → Arr) (b cap : Nat) (h : List Nat) (ix : Nat → Nat) (k : Nat) (w w' : World) : Prop where
  ex : ∃ h' ix', Moved B m A d b cap h ix w h' ix' w' ∧ (DownInv (fOf d h) h.length k → HeapF (fOf d h') h.length)

set_option maxRecDepth 100000 in
set_option maxHeartbeats 2000000 in
theorem down_ok (B m : Nat) (A : Nat → Nat) (d : Nat → Arr) (b cap : Nat) (h : List Nat) (ix : Nat → Nat) (k : Nat) (w : World) (hA : Arrs w m A d ix) (hH : Hp w B m A b cap h ix) (hk : k < h.length) (hl : h.length ≤ 1024) (hm : m ≤ 1024) :
    Calls Ybaf.prog 27 #[.slice (some ⟨b, 0, none⟩) h.length cap, .int .i64 k] w fun en w' => en = .returned (.tuple #[]) ∧ Downed B m A d b cap h ix k w w' := by
  have hl' : (h.length : Int) ≤ 1024 := by omega
  have ix0 := index96_0
  have ix1 := index96_1
  go_enter Ybaf.func27, Ybaf.ntmps27
  go_wp2_with fail
  go_loopw [1] (fun vk wr => ∃ (k' : Nat) (h' : List Nat) (ix' : Nat → Nat), vk = .int .i64 k' ∧ k' < h.length ∧ Moved B m A d b cap h ix w h' ix' wr ∧ (DownInv (fOf d h) h.length k → DownInv (fOf d h') h.length k')) (fun vk _ => h.length - (intOf vk).toNat)
  case atStart => exact ⟨k, h, ix, rfl, hk, Moved.refl hA hH, fun h => h⟩
  case round =>
    obtain ⟨k', h', ix', rfl, hk', hM, hD⟩ := hrel
    obtain ⟨w1, rfl⟩ : ∃ x, x = wr := ⟨wr, rfl⟩
    have hlen := hM.len
    obtain ⟨c1, hc1⟩ : ∃ c, c = better (fOf d h') h.length k' (2 * k' + 1) := ⟨_, rfl⟩
    obtain ⟨c2, hc2⟩ : ∃ c, c = better (fOf d h') h.length c1 (2 * k' + 2) := ⟨_, rfl⟩
    have hc1l : c1 < h.length := by rw [hc1]; exact better_lt hk'
    have hc2l : c2 < h.length := by rw [hc2]; exact better_lt hc1l
    have hbest := best_of hc1 hc2
    have hk0 : (0 : Int) ≤ k' := by omega
    have hk2 : (k' : Int) < h.length := by omega
    have H1 : Hid (c1 = better (fOf d h') h.length k' (2 * k' + 1)) := hc1
    have H2 : Hid (c2 = better (fOf d h') h.length c1 (2 * k' + 2)) := hc2
    have HM : Hid (Moved B m A d b cap h ix w h' ix' w1) := hM
    clear hc1 hc2 hM hA hH
    go_upto_block 2 with fail
    go_name_slot 10 aI haI
    go_name_slot 13 bI hbI
    obtain ⟨l1, hl1⟩ : ∃ l : Nat, l = 2 * k' + 1 := ⟨_, rfl⟩
    obtain ⟨l2, hl2⟩ : ∃ l : Nat, l = 2 * k' + 2 := ⟨_, rfl⟩
    obtain rfl : aI = (l1 : Int) := by omega
    obtain rfl : bI = (l2 : Int) := by omega
    clear haI hbI
    have hl10 : (0 : Int) ≤ l1 := by omega
    have hl20 : (0 : Int) ≤ l2 := by omega
    have L1 : Hid (l1 = 2 * k' + 1) := hl1
    have L2 : Hid (l2 = 2 * k' + 2) := hl2
    clear hl1 hl2
    go_wp2_with fail
    go_loopw [4, 15] (fun v4 v15 wr => ∃ t c : Nat, v15 = .int .i64 t ∧ v4 = .int .i64 c ∧ ((t = 0 ∧ c = k') ∨ (t = 1 ∧ c = c1) ∨ (t = 2 ∧ c = c2)) ∧ ∃ q, wr = w1.drewN q) (fun _ v15 _ => 2 - (intOf v15).toNat)
    case atStart => exact ⟨0, k', rfl, rfl, .inl ⟨rfl, rfl⟩, 0, rfl⟩
    case round =>
      obtain ⟨t, c, rfl, rfl, hcase, q, hwr⟩ := hrel
      rcases hcase with ⟨ht, hc⟩ | ⟨ht, hc⟩ | ⟨ht, hc⟩
      · subst ht
        rw [hc]
        clear hc
        have hcl : k' < h.length := by omega
        obtain ⟨y, hy⟩ : ∃ y, h'[k']? = some y := ⟨h'[k'], by simp [hlen, hcl]⟩
        have hym := HM.out.hp.mem y (List.mem_of_getElem? hy)
        have hy1 : y < 1024 := by omega
        have cy : wr.cell? ⟨b, k', none⟩ = some (.pointer (some ⟨A y, 0, none⟩)) := hwr ▸ HM.out.hp.cell hy
        have bY : ∀ q, Blk (wr.drewN q) (A y) (arrCells (d y) y (ix' y)) 34 := fun q => hwr ▸ HM.out.arr.blk y hym
        have fy := fOf_at (d := d) hy
        have hwr' : Hid (wr = w1.drewN q) := hwr
        clear hwr
        have hcl' : (k' : Int) < h.length := by omega
        have hc0 : (0 : Int) ≤ k' := by omega
        go_upto_region 4 with fail
        by_cases hin : l1 < h.length
        · have hin' : (l1 : Int) < h.length := by omega
          obtain ⟨x, hx⟩ : ∃ x, h'[l1]? = some x := ⟨h'[l1], by simp [hlen, hin]⟩
          have hxm := HM.out.hp.mem x (List.mem_of_getElem? hx)
          have hx1 : x < 1024 := by omega
          have cx : wr.cell? ⟨b, l1, none⟩ = some (.pointer (some ⟨A x, 0, none⟩)) := hwr'.out ▸ HM.out.hp.cell hx
          have bx : ∀ q, Blk (wr.drewN q) (A x) (arrCells (d x) x (ix' x)) 34 := fun q => hwr'.out ▸ HM.out.arr.blk x hxm
          have fx := fOf_at (d := d) hx
          by_cases hlt : key d x < key d y
          · have hdec := decide_eq_true hlt
            have hcn0 : c1 = l1 := by
              rw [H1.out, ← L1.out]
              unfold better
              rw [if_pos ⟨hin, by rw [fx, fy]; exact hlt⟩]
            have hcn : Hid (c1 = l1) := hcn0
            clear hcn0 fx fy hbest hD
            go_quiet (first | (go_at_call 24; exact Calls.quiet_of (before_q true A d x y _ _ _ hdec (bx _) (bY _) hx1 hy1)))
            go_wp2_with fail
            exact ⟨⟨1, _, rfl, rfl, .inr (.inl ⟨rfl, hcn.out.symm⟩), q + nq, by rw [hwr'.out, World.drewN_drewN]⟩, by simp [intOf]⟩
          · have hdec := decide_eq_false hlt
            have hcn0 : c1 = k' := by
              rw [H1.out, ← L1.out]
              unfold better
              rw [if_neg (fun hh => hlt (by have := hh.2; rw [fx, fy] at this; exact this))]
            have hcn : Hid (c1 = k') := hcn0
            clear hcn0 fx fy hbest hD
            go_quiet (first | (go_at_call 24; exact Calls.quiet_of (before_q false A d x y _ _ _ hdec (bx _) (bY _) hx1 hy1)))
            go_wp2_with fail
            exact ⟨⟨1, _, rfl, rfl, .inr (.inl ⟨rfl, hcn.out.symm⟩), q + nq, by rw [hwr'.out, World.drewN_drewN]⟩, by simp [intOf]⟩
        · have hin' : decide ((l1 : Int) < h.length) = false := decide_eq_false (by omega)
          have hcn0 : c1 = k' := by
            rw [H1.out, ← L1.out]
            unfold better
            rw [if_neg (fun hh => hin hh.1)]
          have hcn : Hid (c1 = k') := hcn0
          clear hcn0 fy hbest hD
          go_quiet (fail)
          go_wp2_with fail
          exact ⟨⟨1, _, rfl, rfl, .inr (.inl ⟨rfl, hcn.out.symm⟩), q + nq, by rw [hwr'.out, World.drewN_drewN]⟩, by simp [intOf]⟩
      · subst ht
        rw [hc]
        clear hc
        have hcl : c1 < h.length := by omega
        obtain ⟨y, hy⟩ : ∃ y, h'[c1]? = some y := ⟨h'[c1], by simp [hlen, hcl]⟩
        have hym := HM.out.hp.mem y (List.mem_of_getElem? hy)
        have hy1 : y < 1024 := by omega
        have cy : wr.cell? ⟨b, c1, none⟩ = some (.pointer (some ⟨A y, 0, none⟩)) := hwr ▸ HM.out.hp.cell hy
        have bY : ∀ q, Blk (wr.drewN q) (A y) (arrCells (d y) y (ix' y)) 34 := fun q => hwr ▸ HM.out.arr.blk y hym
        have fy := fOf_at (d := d) hy
        have hwr' : Hid (wr = w1.drewN q) := hwr
        clear hwr
        have hcl' : (c1 : Int) < h.length := by omega
        have hc0 : (0 : Int) ≤ c1 := by omega
        go_upto_region 4 with fail
        by_cases hin : l2 < h.length
        · have hin' : (l2 : Int) < h.length := by omega
          obtain ⟨x, hx⟩ : ∃ x, h'[l2]? = some x := ⟨h'[l2], by simp [hlen, hin]⟩
          have hxm := HM.out.hp.mem x (List.mem_of_getElem? hx)
          have hx1 : x < 1024 := by omega
          have cx : wr.cell? ⟨b, l2, none⟩ = some (.pointer (some ⟨A x, 0, none⟩)) := hwr'.out ▸ HM.out.hp.cell hx
          have bx : ∀ q, Blk (wr.drewN q) (A x) (arrCells (d x) x (ix' x)) 34 := fun q => hwr'.out ▸ HM.out.arr.blk x hxm
          have fx := fOf_at (d := d) hx
          by_cases hlt : key d x < key d y
          · have hdec := decide_eq_true hlt
            have hcn0 : c2 = l2 := by
              rw [H2.out, ← L2.out]
              unfold better
              rw [if_pos ⟨hin, by rw [fx, fy]; exact hlt⟩]
            have hcn : Hid (c2 = l2) := hcn0
            clear hcn0 fx fy hbest hD
            go_quiet (first | (go_at_call 24; exact Calls.quiet_of (before_q true A d x y _ _ _ hdec (bx _) (bY _) hx1 hy1)))
            go_wp2_with fail
            exact ⟨⟨2, _, rfl, rfl, .inr (.inr ⟨rfl, hcn.out.symm⟩), q + nq, by rw [hwr'.out, World.drewN_drewN]⟩, by simp [intOf]⟩
          · have hdec := decide_eq_false hlt
            have hcn0 : c2 = c1 := by
              rw [H2.out, ← L2.out]
              unfold better
              rw [if_neg (fun hh => hlt (by have := hh.2; rw [fx, fy] at this; exact this))]
            have hcn : Hid (c2 = c1) := hcn0
            clear hcn0 fx fy hbest hD
            go_quiet (first | (go_at_call 24; exact Calls.quiet_of (before_q false A d x y _ _ _ hdec (bx _) (bY _) hx1 hy1)))
            go_wp2_with fail
            exact ⟨⟨2, _, rfl, rfl, .inr (.inr ⟨rfl, hcn.out.symm⟩), q + nq, by rw [hwr'.out, World.drewN_drewN]⟩, by simp [intOf]⟩
        · have hin' : decide ((l2 : Int) < h.length) = false := decide_eq_false (by omega)
          have hcn0 : c2 = c1 := by
            rw [H2.out, ← L2.out]
            unfold better
            rw [if_neg (fun hh => hin hh.1)]
          have hcn : Hid (c2 = c1) := hcn0
          clear hcn0 fy hbest hD
          go_quiet (fail)
          go_wp2_with fail
          exact ⟨⟨2, _, rfl, rfl, .inr (.inr ⟨rfl, hcn.out.symm⟩), q + nq, by rw [hwr'.out, World.drewN_drewN]⟩, by simp [intOf]⟩
      · subst ht
        rw [hc]
        clear hc
        by_cases he : c2 = k'
        · have he' : (c2 : Int) = k' := by omega
          have hend : Hid (Downed B m A d b cap h ix k w wr) := by
            rw [hwr]
            refine ⟨h', ix', HM.out.drewN q, fun hh => (hD hh).done ?_⟩
            rw [← he]
            have := hbest.2
            rw [← he] at this
            exact this
          clear hbest hD hwr
          subst he
          go_wp2_with fail
          try simp only [Exit.inBlock, Exit.then]
          refine bodyPost_ret (results_none rfl _ _ _) rfl ?_
          exact ⟨rfl, hend.out⟩
        · have he' : ¬ (c2 : Int) = k' := by omega
          have hc2' : (c2 : Int) < h.length := by omega
          obtain ⟨hb1, hb2, hb3⟩ := hbest.1.resolve_left he
          have hst : Hid (DownInv (fOf d h) h.length k → DownInv (fOf d (swapL h' k' c2)) h.length c2) := fun hh => by
            rw [fOf_swap (by omega) (by omega)]
            exact (hD hh).step hb2 hc2l hb1 hb3 hbest.2
          have HMq : Hid (Moved B m A d b cap h ix w h' ix' wr) := hwr ▸ HM.out.drewN q
          have hlt2 : k' < c2 := by omega
          clear hbest hD hwr hb1 hb3
          go_wp2_with fail
          rw [← hlen]
          refine (swap_ok B m A d b cap h' ix' k' c2 _ HMq.out.arr HMq.out.hp (by omega) (by omega) (by omega) (by omega)).mono ?_
          rintro e w2 ⟨rfl, hS⟩
          obtain ⟨ix2, hM2⟩ := HMq.out.swap (by omega) (by omega) hS
          rw [hlen]
          have hM2' : Hid (Moved B m A d b cap h ix w (swapL h' k' c2) ix2 w2) := hM2
          clear hS hM2
          go_wp2_with fail
          exact ⟨⟨c2, swapL h' k' c2, ix2, rfl, hc2l, hM2'.out, hst.out⟩, by simp [intOf]; omega⟩
end Go.Proofs.YbulkaryoFmt
