/-
  slotHeap.removeAt and pop.
-/
import Derived.Test.YbulkaryoFmtDown
namespace Go.Proofs.YbulkaryoFmt
open Go.RowKit

/-- What is left where the last takes the place of the k-th. -/
def moved (h : List Nat) (k z : Nat) : List Nat := h.dropLast.set k z
theorem moved_length (h : List Nat) (k z : Nat) : (moved h k z).length = h.length - 1 := by simp [moved]
theorem moved_get {h : List Nat} {k z i : Nat} (hk : k + 1 < h.length) : (moved h k z)[i]? = if i = k then some z else if i + 1 < h.length then h[i]? else none := by
  unfold moved
  by_cases e : i = k
  · subst e
    rw [if_pos rfl, List.getElem?_set_self (by simp; omega)]
  · rw [if_neg e, List.getElem?_set_ne (Ne.symm e)]
    by_cases hi : i + 1 < h.length
    · rw [if_pos hi, List.getElem?_dropLast, if_pos (by omega)]
    · rw [if_neg hi, List.getElem?_eq_none (by simp; omega)]
theorem drop_get {h : List Nat} {i : Nat} : h.dropLast[i]? = if i + 1 < h.length then h[i]? else none := by
  rw [List.getElem?_dropLast]
  by_cases hi : i + 1 < h.length
  · rw [if_pos hi, if_pos (by omega)]
  · rw [if_neg hi, if_neg (by omega)]

/-- Behind removeAt. -/
structure Removed (B m : Nat) (A : Nat → Nat) (d : Nat → Arr) (S o : Nat) (cs : Array Value) (b cap : Nat) (h : List Nat) (ix : Nat → Nat) (k x : Nat) (w w' : World) : Prop where
  ex : ∃ h' ix', Blk w' S (cs.setIfInBounds o (.slice (some ⟨b, 0, none⟩) (h.length - 1) cap)) 51 ∧ Arrs w' m A d ix' ∧ Hp w' B m A b cap h' ix' ∧ h'.length = h.length - 1 ∧ (∀ y, y ∈ h' ↔ y ∈ h ∧ y ≠ x) ∧ (∀ y, y ∉ h → ix' y = ix y) ∧
    (k = 0 → HeapF (fOf d h) h.length → HeapF (fOf d h') h'.length) ∧ Frm (fun k => k = b ∨ k = S ∨ ∃ x, x < m ∧ k = A x) w w'

theorem row_last {w : World} {B g n cap : Nat} {e : TypeId} {xs : List Value} {v : Value} (h : w.ownsRow B e 1 (.slice (some ⟨g, 0, none⟩) (n + 1) cap) (n + 1) xs) : (w.setCell ⟨g, n, none⟩ v).ownsRow B e 1 (.slice (some ⟨g, 0, none⟩) n cap) n xs.dropLast := by
  have h1 := (h.stored n v).1
  have hl : xs.length = n + 1 := by have := h.1; omega
  have he : xs.set n v = xs.dropLast ++ [v] := by
    apply List.ext_getElem?
    intro i
    by_cases e1 : i = n
    · subst e1
      rw [List.getElem?_set_self (by omega), List.getElem?_append_right (by simp; omega)]
      simp [hl]
    · rw [List.getElem?_set_ne (Ne.symm e1)]
      by_cases e2 : i < n
      · rw [List.getElem?_append_left (by simp; omega), List.getElem?_dropLast, if_pos (by omega)]
      · rw [List.getElem?_eq_none (by omega), List.getElem?_eq_none (by simp; omega)]
  rw [he] at h1
  exact ownsRow_pop (by simp [hl]) h1

theorem map_dropLast (f : Nat → Value) (h : List Nat) : (h.map f).dropLast = h.dropLast.map f := by
  rw [List.map_dropLast]

theorem heap_moved {d : Nat → Arr} {h : List Nat} {z : Nat} (hk : 0 + 1 < h.length) (hh : HeapF (fOf d h) h.length) : DownInv (fOf d (moved h 0 z)) (h.length - 1) 0 := by
  have hf : ∀ i, i ≠ 0 → i + 1 < h.length → fOf d (moved h 0 z) i = fOf d h i := fun i h0 hi => by
    unfold fOf
    rw [List.getD, List.getD, moved_get hk, if_neg h0, if_pos hi]
  refine ⟨fun i hi0 hiL hp => ?_, fun h0 => absurd h0 (Nat.lt_irrefl _)⟩
  rw [hf i (by omega) (by omega), hf _ hp (by omega)]
  exact hh i hi0 (by omega)
theorem heap_drop {d : Nat → Arr} {h : List Nat} (hh : HeapF (fOf d h) h.length) : HeapF (fOf d h.dropLast) (h.length - 1) := by
  have hf : ∀ i, i + 1 < h.length → fOf d h.dropLast i = fOf d h i := fun i hi => by
    unfold fOf
    rw [List.getD, List.getD, drop_get, if_pos hi]
  intro i hi0 hiL
  rw [hf i (by omega), hf _ (by omega)]
  exact hh i hi0 (by omega)

set_option maxRecDepth 100000 in
set_option maxHeartbeats 2000000 in
theorem removeAt_ok (B m : Nat) (A : Nat → Nat) (d : Nat → Arr) (S o : Nat) (cs : Array Value) (b cap : Nat) (h : List Nat) (ix : Nat → Nat) (k x : Nat) (w : World) (hS : Blk w S cs 51) (ho : cs[o]? = some (.slice (some ⟨b, 0, none⟩) h.length cap)) (hA : Arrs w m A d ix) (hH : Hp w B m A b cap h ix) (hx : h[k]? = some x) (hl : h.length ≤ 1024) (hm : m ≤ 1024) :
    Calls Ybaf.prog 23 #[.pointer (some ⟨S, o, none⟩), .int .i64 k] w fun en w' => en = .returned (.pointer (some ⟨A x, 0, none⟩)) ∧ Removed B m A d S o cs b cap h ix k x w w' := by
  have hk : k < h.length := (List.getElem?_eq_some_iff.1 hx).1
  have hl' : (h.length : Int) ≤ 1024 := by omega
  have hk' : (k : Int) < h.length := by omega
  have hxm := hH.mem x (List.mem_of_getElem? hx)
  have hpx := hH.pos k x hx
  have cS := (hS.cell o).trans ho
  have fS := hS.frozen o
  have ck := hH.cell hx
  have fk := hH.row.frozenAt k
  have hbS : b ≠ S := fun e => owns_blk hH.row hS (by decide) (by rw [← e]; rfl)
  have hSA : ∀ y, y < m → S ≠ A y := fun y hy e => by
    have h1 := hA.blk y hy
    unfold Blk at h1 hS
    rw [← e, hS] at h1
    injection h1 with h1
    injection h1 with _ h1
    exact absurd h1 (by decide)
  have hbA : ∀ y, y < m → b ≠ A y := fun y hy e => owns_blk hH.row (hA.blk y hy) (by decide) (by rw [← e]; rfl)
  have hcap : h.length ≤ cap := by
    rcases hH.row.2 with ⟨h0, _⟩ | ⟨g, c, cur, h0, _, _, h1, _⟩
    · cases h0
    · cases h0
      exact h1
  obtain ⟨n, hn⟩ : ∃ n, h.length = n + 1 := ⟨h.length - 1, by omega⟩
  have hcap' : (n : Int) ≤ cap := by omega
  clear hcap
  by_cases hlast : k = n
  · subst hlast
    have hfin : Removed B m A d S o cs b cap h ix k x w ((w.setCell ⟨b, k, none⟩ (.pointer none)).setCell ⟨S, o, none⟩ (.slice (some ⟨b, 0, none⟩) k cap)) := by
      have hf : Frm (fun j => j = b ∨ j = S) w ((w.setCell ⟨b, k, none⟩ (.pointer none)).setCell ⟨S, o, none⟩ (.slice (some ⟨b, 0, none⟩) k cap)) := ((Frm.refl (fun j => j = b ∨ j = S) w).setCell ⟨b, k, none⟩ _ (fun _ => .inl rfl)).setCell ⟨S, o, none⟩ _ (fun _ => .inr rfl)
      refine ⟨h.dropLast, ix, ?_, hA.frm hf (fun j hj e => by rcases e with e | e; (· exact hbA j hj e.symm); (· exact hSA j hj e.symm)), ⟨?_, fun y hy => hH.mem y ((List.dropLast_sublist h).subset hy), fun i y hy => ?_⟩, by simp, fun y => ?_, fun _ _ => rfl, fun _ hh => ?_, hf.mono (fun j _ e => by rcases e with e | e; (· exact .inl e); (· exact .inr (.inl e)))⟩
      · rw [show h.length - 1 = k by omega]
        exact (((Frm.refl (fun j => j = b) w).setCell ⟨b, k, none⟩ _ (fun _ => rfl)).blk hS (fun e => hbS e.symm)).same o _
      · have h1 := hH.row
        rw [hn] at h1
        have h2 := row_last (v := .pointer none) h1
        rw [map_dropLast] at h2
        rw [show h.dropLast.length = k by simp; omega]
        exact ((Frm.refl (fun j => j = S) _).setCell ⟨S, o, none⟩ _ (fun _ => rfl)).owns h2 (fun j hj e => hbS ((Option.some.inj hj).trans e))
      · rw [drop_get] at hy
        split at hy
        · exact hH.pos i y hy
        · cases hy
      · rw [List.mem_iff_getElem?, List.mem_iff_getElem?]
        constructor
        · rintro ⟨i, hi⟩
          rw [drop_get] at hi
          split at hi
          · exact ⟨⟨i, hi⟩, fun e => by subst e; have := hH.pos i y hi; omega⟩
          · cases hi
        · rintro ⟨⟨i, hi⟩, hne⟩
          have hil : i < h.length := (List.getElem?_eq_some_iff.1 hi).1
          have hik : i ≠ k := fun e => by subst e; exact hne (Option.some.inj (hi.symm.trans hx))
          exact ⟨i, by rw [drop_get, if_pos (by omega)]; exact hi⟩
      · rw [List.length_dropLast]
        exact heap_drop hh
    rw [hn] at cS hk' hl'
    have hbS' : S ≠ b := fun e => hbS e.symm
    clear hH hA hS ho hn
    go_enter Ybaf.func23, Ybaf.ntmps23
    go_wp2_with fail
    go_ret
    exact ⟨rfl, hfin⟩
  · obtain ⟨z, hz⟩ : ∃ z, h[n]? = some z := ⟨h[n], by simp [hn]⟩
    have hkn : k < n := by omega
    have hk1 : k + 1 < h.length := by omega
    have hzm := hH.mem z (List.mem_of_getElem? hz)
    have hpz := hH.pos n z hz
    have hzx : z ≠ x := fun e => by rw [e] at hpz; omega
    have cz := hH.cell hz
    have fz := hH.row.frozenAt n
    have az := ((hA.blk z hzm).cell 9).trans (show _ = some (.int .i64 (ix z : Int)) from rfl)
    have faz := (hA.blk z hzm).frozen 9
    have hbz := hbA z hzm
    have hSz := hSA z hzm
    have hbS' : S ≠ b := fun e => hbS e.symm
    have hzb : A z ≠ b := fun e => hbz e.symm
    have hzS : A z ≠ S := fun e => hSz e.symm
    have hkn' : ¬ (k : Int) = n := by omega
    have hmid : Hid (∃ ix1, Blk ((((w.setCell ⟨b, k, none⟩ (.pointer (some ⟨A z, 0, none⟩))).setCell ⟨A z, 9, none⟩ (.int .i64 k)).setCell ⟨b, n, none⟩ (.pointer none)).setCell ⟨S, o, none⟩ (.slice (some ⟨b, 0, none⟩) n cap)) S (cs.setIfInBounds o (.slice (some ⟨b, 0, none⟩) n cap)) 51 ∧
        Arrs ((((w.setCell ⟨b, k, none⟩ (.pointer (some ⟨A z, 0, none⟩))).setCell ⟨A z, 9, none⟩ (.int .i64 k)).setCell ⟨b, n, none⟩ (.pointer none)).setCell ⟨S, o, none⟩ (.slice (some ⟨b, 0, none⟩) n cap)) m A d ix1 ∧
        Hp ((((w.setCell ⟨b, k, none⟩ (.pointer (some ⟨A z, 0, none⟩))).setCell ⟨A z, 9, none⟩ (.int .i64 k)).setCell ⟨b, n, none⟩ (.pointer none)).setCell ⟨S, o, none⟩ (.slice (some ⟨b, 0, none⟩) n cap)) B m A b cap (moved h k z) ix1 ∧ (∀ y, y ∉ h → ix1 y = ix y) ∧
        Frm (fun k => k = b ∨ k = S ∨ ∃ x, x < m ∧ k = A x) w ((((w.setCell ⟨b, k, none⟩ (.pointer (some ⟨A z, 0, none⟩))).setCell ⟨A z, 9, none⟩ (.int .i64 k)).setCell ⟨b, n, none⟩ (.pointer none)).setCell ⟨S, o, none⟩ (.slice (some ⟨b, 0, none⟩) n cap))) := by
      have f1 : Frm (fun j => j = b) w (w.setCell ⟨b, k, none⟩ (.pointer (some ⟨A z, 0, none⟩))) := (Frm.refl (fun j => j = b) w).setCell ⟨b, k, none⟩ _ (fun _ => rfl)
      have a1 := (hA.frm f1 (fun j hj e => hbA j hj e.symm)).put hzm k
      have f2 : Frm (fun j => j = b ∨ j = S) ((w.setCell ⟨b, k, none⟩ (.pointer (some ⟨A z, 0, none⟩))).setCell ⟨A z, 9, none⟩ (.int .i64 k)) ((((w.setCell ⟨b, k, none⟩ (.pointer (some ⟨A z, 0, none⟩))).setCell ⟨A z, 9, none⟩ (.int .i64 k)).setCell ⟨b, n, none⟩ (.pointer none)).setCell ⟨S, o, none⟩ (.slice (some ⟨b, 0, none⟩) n cap)) := ((Frm.refl (fun j => j = b ∨ j = S) _).setCell ⟨b, n, none⟩ _ (fun _ => .inl rfl)).setCell ⟨S, o, none⟩ _ (fun _ => .inr rfl)
      refine ⟨fun y => if y = z then k else ix y, ?_, a1.frm f2 (fun j hj e => by rcases e with e | e; (· exact hbA j hj e.symm); (· exact hSA j hj e.symm)), ⟨?_, fun y hy => ?_, fun i y hy => ?_⟩, fun y hy => ?_, ?_⟩
      · exact ((((Frm.refl (fun j => j = b ∨ j = A z) w).setCell ⟨b, k, none⟩ _ (fun _ => .inl rfl)).setCell ⟨A z, 9, none⟩ _ (fun _ => .inr rfl)).setCell ⟨b, n, none⟩ _ (fun _ => .inl rfl) |>.blk hS (fun e => by rcases e with e | e; (· exact hbS' e); (· exact hSz e))).same o _
      · have h1 := (hH.row.stored k (ptr A z)).1
        rw [hn] at h1
        have h2 := ((Frm.refl (fun j => j = A z) _).setCell ⟨A z, 9, none⟩ (.int .i64 k) (fun _ => rfl)).owns h1 (fun j hj e => hbz ((Option.some.inj hj).trans e))
        have h3 := row_last (v := .pointer none) h2
        have h4 := ((Frm.refl (fun j => j = S) _).setCell ⟨S, o, none⟩ (.slice (some ⟨b, 0, none⟩) n cap) (fun _ => rfl)).owns h3 (fun j hj e => hbS ((Option.some.inj hj).trans e))
        have e1 : ((h.map (ptr A)).set k (ptr A z)).dropLast = (moved h k z).map (ptr A) := by
          unfold moved
          rw [List.map_set, ← map_dropLast]
          apply List.ext_getElem?
          intro i
          have hll : ((h.map (ptr A)).set k (ptr A z)).length = h.length := by simp
          by_cases hi : i + 1 < h.length
          · rw [List.getElem?_dropLast, if_pos (by simp; omega)]
            by_cases e : i = k
            · subst e
              rw [List.getElem?_set_self (by simp; omega), List.getElem?_set_self (by simp; omega)]
            · rw [List.getElem?_set_ne (Ne.symm e), List.getElem?_set_ne (Ne.symm e), List.getElem?_dropLast, if_pos (by simp; omega)]
          · rw [List.getElem?_eq_none (by simp; omega), List.getElem?_eq_none (by simp; omega)]
        rw [e1] at h4
        rw [moved_length, show h.length - 1 = n by omega]
        exact h4
      · obtain ⟨i, hi⟩ := List.mem_iff_getElem?.1 hy
        rw [moved_get hk1] at hi
        split at hi
        · exact Option.some.inj hi ▸ hzm
        · split at hi
          · exact hH.mem y (List.mem_of_getElem? hi)
          · cases hi
      · rw [moved_get hk1] at hy
        split at hy
        · rename_i e
          rw [if_pos (Option.some.inj hy).symm, e]
        · split at hy
          · have hpy := hH.pos i y hy
            rw [if_neg (fun e => by rw [e] at hpy; omega), hpy]
          · cases hy
      · show (if y = z then k else ix y) = ix y
        rw [if_neg (show ¬ y = z from fun e => hy (e ▸ List.mem_of_getElem? hz))]
      · exact ((((Frm.refl (fun k => k = b ∨ k = S ∨ ∃ x, x < m ∧ k = A x) w).setCell ⟨b, k, none⟩ _ (fun _ => .inl rfl)).setCell ⟨A z, 9, none⟩ _ (fun _ => .inr (.inr ⟨z, hzm, rfl⟩))).setCell ⟨b, n, none⟩ _ (fun _ => .inl rfl)).setCell ⟨S, o, none⟩ _ (fun _ => .inr (.inl rfl))
    have hmem : ∀ y, y ∈ moved h k z ↔ y ∈ h ∧ y ≠ x := fun y => by
      rw [List.mem_iff_getElem?, List.mem_iff_getElem?]
      constructor
      · rintro ⟨i, hi⟩
        rw [moved_get hk1] at hi
        split at hi
        · have e := Option.some.inj hi
          subst e
          exact ⟨⟨n, hz⟩, hzx⟩
        · split at hi
          · exact ⟨⟨i, hi⟩, fun e => by subst e; have := hH.pos i y hi; omega⟩
          · cases hi
      · rintro ⟨⟨i, hi⟩, hne⟩
        have hil : i < h.length := (List.getElem?_eq_some_iff.1 hi).1
        have hik : i ≠ k := fun e => by subst e; exact hne (Option.some.inj (hi.symm.trans hx))
        by_cases hin : i = n
        · subst hin
          exact ⟨k, by rw [moved_get hk1, if_pos rfl, ← hi, hz]⟩
        · exact ⟨i, by rw [moved_get hk1, if_neg hik, if_pos (by omega)]; exact hi⟩
    have hord : k = 0 → HeapF (fOf d h) h.length → DownInv (fOf d (moved h k z)) (moved h k z).length 0 := fun e hh => by
      subst e
      rw [moved_length]
      exact heap_moved hk1 hh
    rw [hn] at cS hk' hl'
    have hnH : Hid (h.length = n + 1) := hn
    have hoK : Hid (cs[o]? = some (.slice (some ⟨b, 0, none⟩) h.length cap)) := ho
    clear hH hA hS ho hn
    go_enter Ybaf.func23, Ybaf.ntmps23
    go_upto_region 9 with fail
    go_name_world W hW
    obtain ⟨ix1, m1, m2, m3, m4, m5⟩ := hmid.out
    rw [hW] at m1 m2 m3 m5
    clear hW hmid cS fS ck fk cz fz az faz
    have hml : (moved h k z).length = n := by rw [moved_length, hnH.out]; rfl
    have hn1 : n ≤ 1024 := by have := hnH.out; omega
    have hosz : o < cs.size := (Array.getElem?_eq_some_iff.1 hoK.out).1
    have cW : W.cell? ⟨S, o, none⟩ = some (.slice (some ⟨b, 0, none⟩) n cap) := (m1.cell o).trans (Array.getElem?_setIfInBounds_self_of_lt hosz)
    have hup : ∀ w', Arrs w' m A d ix1 → Hp w' B m A b cap (moved h k z) ix1 → Calls Ybaf.prog 16 #[.slice (some ⟨b, 0, none⟩) n cap, .int .i64 k] w' (fun en w'' => ∃ k' : Nat, en = .returned (.int .i64 k') ∧ k' < n ∧ Upped B m A d b cap (moved h k z) ix1 k w' k' w'') := fun w' h1 h2 => by
      have := up_ok B m A d b cap (moved h k z) ix1 k w' h1 h2 (by omega) (by omega) hm
      rw [hml] at this
      exact this
    have hdown : ∀ w' h1 ix2 k1, h1.length = n → k1 < n → Arrs w' m A d ix2 → Hp w' B m A b cap h1 ix2 → Calls Ybaf.prog 27 #[.slice (some ⟨b, 0, none⟩) n cap, .int .i64 k1] w' (fun en w'' => en = .returned (.tuple #[]) ∧ Downed B m A d b cap h1 ix2 k1 w' w'') := fun w' h1 ix2 k1 e1 e2 h2 h3 => by
      have := down_ok B m A d b cap h1 ix2 k1 w' h2 h3 (by omega) (by omega) hm
      rw [e1] at this
      exact this
    have hkeep : ∀ w' w'', Frm (fun k => k = b ∨ ∃ x, x < m ∧ k = A x) w' w'' → w'.cell? ⟨S, o, none⟩ = some (.slice (some ⟨b, 0, none⟩) n cap) → w''.cell? ⟨S, o, none⟩ = some (.slice (some ⟨b, 0, none⟩) n cap) := fun w' w'' hf hc => by
      have hlt := World.block_lt_of_cell? w' ⟨S, o, none⟩ hc
      rw [hf.cell (a := ⟨S, o, none⟩) hlt (fun e => by rcases e with e | ⟨y, hy, e⟩; (· exact hbS' e); (· exact hSA y hy e))]
      exact hc
    have HU : Hid (∀ w', Arrs w' m A d ix1 → Hp w' B m A b cap (moved h k z) ix1 → Calls Ybaf.prog 16 #[.slice (some ⟨b, 0, none⟩) n cap, .int .i64 k] w' (fun en w'' => ∃ k' : Nat, en = .returned (.int .i64 k') ∧ k' < n ∧ Upped B m A d b cap (moved h k z) ix1 k w' k' w'')) := hup
    clear hup hml
    go_region_held3 (fun w' => w'.cell? ⟨S, o, none⟩ = some (.slice (some ⟨b, 0, none⟩) n cap)) (go_keep) (first
      | (go_at_call 16; refine (HU.out _ (by exact ⟨fun j hj => m2.blk j hj, m2.inj⟩) (by exact ⟨m3.row, m3.mem, m3.pos⟩)).mono ?_; rintro e w1 ⟨k1, rfl, hk1l, hUp⟩; obtain ⟨h1, ix2, hM1, hz0, _⟩ := hUp; have c1 := hkeep _ _ hM1.frm (by exact cW))
      | (go_at_call 27; refine (hdown _ h1 ix2 k1 (hM1.len.trans (by rw [moved_length, hnH.out]; rfl)) hk1l (by exact ⟨fun j hj => hM1.arr.blk j hj, hM1.arr.inj⟩) (by exact ⟨hM1.hp.row, hM1.hp.mem, hM1.hp.pos⟩)).mono ?_; rintro e w2 ⟨rfl, hDn⟩; obtain ⟨h2, ix3, hM2, hD⟩ := hDn; have c2 := hkeep _ _ hM2.frm (by exact c1)))
    have hfinal : Hid (Removed B m A d S o cs b cap h ix k x w w2) := by
      have fW2 : Frm (fun k => k = b ∨ ∃ x, x < m ∧ k = A x) W w2 := ((Frm.refl _ W).drew.trans hM1.frm (fun _ _ h => h)).trans hM2.frm (fun _ _ h => h)
      have hnot : ∀ y, y ∉ h → y ∉ moved h k z := fun y hy hy' => hy ((hmem y).1 hy').1
      have hl2 : h2.length = n := (hM2.len.trans hM1.len).trans (by rw [moved_length, hnH.out]; rfl)
      refine ⟨h2, ix3, ?_, hM2.arr, hM2.hp, by rw [hl2, hnH.out]; rfl, fun y => ((hM2.mem y).trans (hM1.mem y)).trans (hmem y), fun y hy => ?_, fun e hh => ?_, m5.trans fW2 (fun j _ e => by rcases e with e | e; (· exact .inl e); (· exact .inr (.inr e)))⟩
      · rw [show h.length - 1 = n by rw [hnH.out]; rfl]
        exact fW2.blk m1 (fun e => by rcases e with e | ⟨y, hy, e⟩; (· exact hbS' e); (· exact hSA y hy e))
      · rw [hM2.out y (fun hy' => hnot y hy ((hM1.mem y).1 hy')), hM1.out y (hnot y hy), m4 y hy]
      · obtain ⟨e1, e2⟩ := hz0 e
        have := hD (by rw [e1, e2]; exact hord e hh)
        rw [hM2.len]
        exact this
    clear hM1 hM2 hD hz0 m1 m2 m3 m4 m5 hmem hord HU hdown hkeep cW c1 c2
    go_wp2_with fail
    go_ret
    exact ⟨rfl, hfinal.out⟩

/-- pop: removeAt at place 0. -/
theorem pop_ok (B m : Nat) (A : Nat → Nat) (d : Nat → Arr) (S o : Nat) (cs : Array Value) (b cap : Nat) (h : List Nat) (ix : Nat → Nat) (x : Nat) (w : World) (hS : Blk w S cs 51) (ho : cs[o]? = some (.slice (some ⟨b, 0, none⟩) h.length cap)) (hA : Arrs w m A d ix) (hH : Hp w B m A b cap h ix) (hx : h[0]? = some x) (hl : h.length ≤ 1024) (hm : m ≤ 1024) :
    Calls Ybaf.prog 18 #[.pointer (some ⟨S, o, none⟩)] w fun en w' => en = .returned (.pointer (some ⟨A x, 0, none⟩)) ∧ Removed B m A d S o cs b cap h ix 0 x w w' := by
  go_enter Ybaf.func18, Ybaf.ntmps18
  go_wp2_with fail
  refine (removeAt_ok B m A d S o cs b cap h ix 0 x w hS ho hA hH hx hl hm).mono ?_
  rintro e w1 ⟨rfl, hR⟩
  go_wp2_with fail
  go_ret
  exact ⟨rfl, hR⟩
end Go.Proofs.YbulkaryoFmt
