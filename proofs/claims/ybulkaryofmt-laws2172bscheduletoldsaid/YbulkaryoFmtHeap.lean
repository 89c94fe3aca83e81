/-
  Arrivals in memory; which comes first.
-/
import Derived.Test.YbulkaryoFmtMem
import Derived.Deep.DeepCutAuto
import Derived.Deep.CutBlock
import Derived.Lib.ItoaWalk
namespace Go.Proofs.YbulkaryoFmt
open Go.RowKit

/-- A load that no condition on the world gives. -/
def later (o : Op) : Op := o
attribute [local go_sem] later

/-- What an arrival holds besides its number and its place. -/
structure Arr where
  at_ : Nat
  fr : Nat
  tt : Nat
  cut : Bool
def arrCells (d : Arr) (j ix : Nat) : Array Value := #[.int .i64 d.at_, .int .u64 j, .int .i64 d.fr, .int .i64 d.tt, .int .u8 0, .int .u64 0, .slice none 0 0, .bool d.cut, .bool false, .int .i64 ix]
def ptr (A : Nat → Nat) (j : Nat) : Value := .pointer (some ⟨A j, 0, none⟩)
/-- By what they are ordered. -/
def key (d : Nat → Arr) (j : Nat) : Nat := (d j).at_ * 1024 + j

set_option maxRecDepth 100000 in
set_option maxHeartbeats 1000000 in
theorem before_ok (A : Nat → Nat) (d : Nat → Arr) (a b ia ib : Nat) (w : World) (ha : Blk w (A a) (arrCells (d a) a ia) 34) (hb : Blk w (A b) (arrCells (d b) b ib) 34) (la : a < 1024) (lb : b < 1024) :
    Calls Ybaf.prog 24 #[ptr A a, ptr A b] w fun en w' => en = .returned (.bool (decide (key d a < key d b))) ∧ ∃ q, w' = w.drewN q := by
  have a0 := (ha.cell 0).trans (show _ = some (.int .i64 ((d a).at_ : Int)) from rfl)
  have a1 := (ha.cell 1).trans (show _ = some (.int .u64 (a : Int)) from rfl)
  have b0 := (hb.cell 0).trans (show _ = some (.int .i64 ((d b).at_ : Int)) from rfl)
  have b1 := (hb.cell 1).trans (show _ = some (.int .u64 (b : Int)) from rfl)
  have hk : key d a < key d b ↔ ((d a).at_ < (d b).at_ ∨ ((d a).at_ = (d b).at_ ∧ a < b)) := by
    unfold key
    omega
  clear ha hb
  generalize (d a).at_ = x at a0 hk
  generalize (d b).at_ = y at b0 hk
  generalize key d a = ka at hk ⊢
  generalize key d b = kb at hk ⊢
  unfold ptr
  have hk' : Hid (ka < kb ↔ (x < y ∨ (x = y ∧ a < b))) := hk
  clear hk
  have hkeq : x = y → decide (ka < kb) = decide (a < b) := fun h => decide_eq_decide.2 (by have := hk'.out; omega)
  have hkne : x ≠ y → decide (ka < kb) = decide (x < y) := fun h => decide_eq_decide.2 (by have := hk'.out; omega)
  clear hk'
  go_enter Ybaf.func24, Ybaf.ntmps24
  by_cases hxy : x = y
  · have e := hkeq hxy
    clear hkeq hkne
    subst hxy
    rw [e]
    clear e
    go_upto_region 1 with fail
    go_quiet (fail)
    go_upto_region 3 with fail
    go_quiet (fail)
    go_wp2_with fail
    go_ret
    refine ⟨rfl, ?_⟩
    first | exact ⟨_, rfl⟩ | exact ⟨_, by rw [World.drewN_drewN]⟩
  · have e := hkne hxy
    clear hkeq hkne
    rw [e]
    clear e
    have hxy' : ¬ (x : Int) = y := by omega
    go_upto_region 1 with fail
    go_quiet (fail)
    go_upto_region 2 with fail
    go_quiet (fail)
    go_wp2_with fail
    go_ret
    refine ⟨rfl, ?_⟩
    first | exact ⟨_, rfl⟩ | exact ⟨_, by rw [World.drewN_drewN]⟩

/-! ### Heaps -/
/-- Two places exchanged. -/
def swapL (h : List Nat) (i j : Nat) : List Nat := (h.set i (h.getD j 0)).set j (h.getD i 0)
def sig (i j k : Nat) : Nat := if k = j then i else if k = i then j else k
theorem swapL_length (h : List Nat) (i j : Nat) : (swapL h i j).length = h.length := by simp [swapL]
theorem swapL_get {h : List Nat} {i j : Nat} (hi : i < h.length) (hj : j < h.length) (k : Nat) : (swapL h i j)[k]? = h[sig i j k]? := by
  unfold swapL sig
  by_cases e1 : k = j
  · subst e1
    rw [if_pos rfl, List.getElem?_set_self (by simpa using hj), List.getD, List.getElem?_eq_getElem hi]
    rfl
  · rw [if_neg e1, List.getElem?_set_ne (Ne.symm e1)]
    by_cases e2 : k = i
    · subst e2
      rw [if_pos rfl, List.getElem?_set_self hi, List.getD, List.getElem?_eq_getElem hj]
      rfl
    · rw [if_neg e2, List.getElem?_set_ne (Ne.symm e2)]
theorem sig_sig (i j k : Nat) : sig i j (sig i j k) = k := by
  unfold sig
  split <;> split <;> (try split) <;> omega
theorem swapL_mem {h : List Nat} {i j : Nat} (hi : i < h.length) (hj : j < h.length) (x : Nat) : x ∈ swapL h i j ↔ x ∈ h := by
  rw [List.mem_iff_getElem?, List.mem_iff_getElem?]
  constructor
  · rintro ⟨k, hk⟩
    exact ⟨_, (swapL_get hi hj k).symm.trans hk⟩
  · rintro ⟨k, hk⟩
    exact ⟨sig i j k, by rw [swapL_get hi hj, sig_sig]; exact hk⟩
theorem swapL_map (f : Nat → Value) {h : List Nat} {i j x y : Nat} (hx : h[i]? = some x) (hy : h[j]? = some y) : (swapL h i j).map f = ((h.map f).set i (f y)).set j (f x) := by
  unfold swapL
  rw [List.map_set, List.map_set, List.getD, List.getD, hx, hy]
  rfl

/-- The rows' blocks and the arrivals' blocks differ by their types. -/
theorem owns_blk {w : World} {base : Nat} {e t : TypeId} {size n b : Nat} {v : Value} {xs : List Value} {cs : Array Value} (h : w.ownsRow base e size v n xs) (k : Blk w b cs t) (hne : e ≠ t) : v.ownBlock ≠ some b := fun hv => by
  rcases h.2 with ⟨rfl, _⟩ | ⟨g1, c1, cur1, rfl, _, h1, _⟩
  · cases hv
  have e1 : g1 = b := Option.some.inj hv
  subst e1
  unfold Blk at k
  rw [h1] at k
  injection k with k
  injection k with _ k
  exact hne k

/-- The arrivals in memory; ix: the place that each notes. -/
structure Arrs (w : World) (m : Nat) (A : Nat → Nat) (d : Nat → Arr) (ix : Nat → Nat) : Prop where
  blk : ∀ j, j < m → Blk w (A j) (arrCells (d j) j (ix j)) 34
  inj : ∀ i j, i < m → j < m → A i = A j → i = j
/-- A heap: the row of its pointers; each of its arrivals notes its place. -/
structure Hp (w : World) (B m : Nat) (A : Nat → Nat) (b cap : Nat) (h : List Nat) (ix : Nat → Nat) : Prop where
  row : w.ownsRow B 35 1 (.slice (some ⟨b, 0, none⟩) h.length cap) h.length (h.map (ptr A))
  mem : ∀ j ∈ h, j < m
  pos : ∀ i j, h[i]? = some j → ix j = i

theorem Arrs.frm {S : Nat → Prop} {w w' : World} {m : Nat} {A : Nat → Nat} {d : Nat → Arr} {ix : Nat → Nat} (h : Arrs w m A d ix) (hf : Frm S w w') (hS : ∀ j, j < m → ¬ S (A j)) : Arrs w' m A d ix :=
  ⟨fun j hj => hf.blk (h.blk j hj) (hS j hj), h.inj⟩
/-- One place is noted. -/
theorem Arrs.put {w : World} {m : Nat} {A : Nat → Nat} {d : Nat → Arr} {ix : Nat → Nat} (h : Arrs w m A d ix) {x : Nat} (hx : x < m) (i : Nat) : Arrs (w.setCell ⟨A x, 9, none⟩ (.int .i64 i)) m A d (fun y => if y = x then i else ix y) := by
  refine ⟨fun j hj => ?_, h.inj⟩
  by_cases e : j = x
  · subst e
    rw [if_pos rfl]
    exact (h.blk j hj).same 9 _
  · rw [if_neg e]
    exact ((Frm.refl (fun k => k = A x) w).setCell ⟨A x, 9, none⟩ _ (fun _ => rfl)).blk (h.blk j hj) (fun he => e (h.inj j x hj hx he))

/-- Behind an exchange. -/
structure Swapped (B m : Nat) (A : Nat → Nat) (d : Nat → Arr) (b cap : Nat) (h : List Nat) (ix : Nat → Nat) (i j : Nat) (w w' : World) : Prop where
  ex : ∃ ix', Arrs w' m A d ix' ∧ Hp w' B m A b cap (swapL h i j) ix' ∧ (∀ x, x ∉ h → ix' x = ix x) ∧ Frm (fun k => k = b ∨ ∃ x, x < m ∧ k = A x) w w'

set_option maxRecDepth 100000 in
set_option maxHeartbeats 1000000 in
theorem swap_ok (B m : Nat) (A : Nat → Nat) (d : Nat → Arr) (b cap : Nat) (h : List Nat) (ix : Nat → Nat) (i j : Nat) (w : World) (hA : Arrs w m A d ix) (hH : Hp w B m A b cap h ix) (hi : i < h.length) (hj : j < h.length) (hij : i ≠ j) (hl : h.length ≤ 1024) :
    Calls Ybaf.prog 25 #[.slice (some ⟨b, 0, none⟩) h.length cap, .int .i64 i, .int .i64 j] w fun en w' => en = .returned (.tuple #[]) ∧
      Swapped B m A d b cap h ix i j w w' := by
  obtain ⟨x, hx⟩ : ∃ x, h[i]? = some x := ⟨h[i], by simp [hi]⟩
  obtain ⟨y, hy⟩ : ∃ y, h[j]? = some y := ⟨h[j], by simp [hj]⟩
  have hxm := hH.mem x (List.mem_of_getElem? hx)
  have hym := hH.mem y (List.mem_of_getElem? hy)
  have hxy : x ≠ y := fun e => by
    subst e
    have h1 := hH.pos i x hx
    have h2 := hH.pos j x hy
    omega
  have hAxy : A x ≠ A y := fun e => hxy (hA.inj x y hxm hym e)
  have hbx : b ≠ A x := fun e => owns_blk hH.row (hA.blk x hxm) (by decide) (by rw [← e]; rfl)
  have hby : b ≠ A y := fun e => owns_blk hH.row (hA.blk y hym) (by decide) (by rw [← e]; rfl)
  have ci : w.cell? ⟨b, i, none⟩ = some (.pointer (some ⟨A x, 0, none⟩)) := by
    have := hH.row.cellAt i (by omega)
    rw [this, List.getElem?_map, hx]
    rfl
  have cj : w.cell? ⟨b, j, none⟩ = some (.pointer (some ⟨A y, 0, none⟩)) := by
    have := hH.row.cellAt j (by omega)
    rw [this, List.getElem?_map, hy]
    rfl
  have fi := hH.row.frozenAt i
  have fj := hH.row.frozenAt j
  have xx := ((hA.blk x hxm).cell 9).trans (show _ = some (.int .i64 (ix x : Int)) from rfl)
  have xy := ((hA.blk y hym).cell 9).trans (show _ = some (.int .i64 (ix y : Int)) from rfl)
  have fx := (hA.blk x hxm).frozen 9
  have fy := (hA.blk y hym).frozen 9
  have hij' : ¬ (i : Int) = j := by omega
  have hi' : (i : Int) < h.length := by omega
  have hj' : (j : Int) < h.length := by omega
  have hl' : (h.length : Int) ≤ 1024 := by omega
  have hfin : Swapped B m A d b cap h ix i j w (((((w.setCell ⟨b, i, none⟩ (.pointer (some ⟨A y, 0, none⟩))).setCell ⟨b, j, none⟩ (.pointer (some ⟨A x, 0, none⟩))).setCell ⟨A y, 9, none⟩ (.int .i64 i)).setCell ⟨A x, 9, none⟩ (.int .i64 j)).drew.drew) := by
    refine ⟨fun k => if k = x then j else if k = y then i else ix k, ?_, ⟨?_, fun k hk => hH.mem k ((swapL_mem hi hj k).1 hk), fun k z hz => ?_⟩, fun k hk => ?_, ?_⟩
    · have h1 : Arrs ((w.setCell ⟨b, i, none⟩ (.pointer (some ⟨A y, 0, none⟩))).setCell ⟨b, j, none⟩ (.pointer (some ⟨A x, 0, none⟩))) m A d ix := hA.frm (((Frm.refl (fun k => k = b) w).setCell ⟨b, i, none⟩ _ (fun _ => rfl)).setCell ⟨b, j, none⟩ _ (fun _ => rfl)) (fun k hk e => owns_blk hH.row (hA.blk k hk) (by decide) (by rw [e]; rfl))
      have h2 := (h1.put hym i).put hxm j
      exact ⟨fun k hk => h2.blk k hk, h2.inj⟩
    · have h1 := ((hH.row.stored i (ptr A y)).1.stored j (ptr A x)).1
      rw [swapL_length, swapL_map (ptr A) hx hy]
      exact ((Frm.refl (fun k => k = A y ∨ k = A x) _).setCell ⟨A y, 9, none⟩ _ (fun _ => .inl rfl) |>.setCell ⟨A x, 9, none⟩ _ (fun _ => .inr rfl)).drew.drew.owns h1 (fun k hk e => by
        have : b = k := Option.some.inj hk
        rcases e with e | e <;> omega)
    · rw [swapL_get hi hj] at hz
      unfold sig at hz
      split at hz
      · rename_i e
        have : x = z := Option.some.inj (hx.symm.trans hz)
        simp [this, e]
      · split at hz
        · rename_i e1 e2
          have : y = z := Option.some.inj (hy.symm.trans hz)
          subst this
          rw [if_neg (fun e => hxy e.symm), if_pos rfl, e2]
        · rename_i e1 e2
          have hzk := hH.pos k z hz
          have hzx : z ≠ x := fun e => by
            subst e
            have := hH.pos i z hx
            omega
          have hzy : z ≠ y := fun e => by
            subst e
            have := hH.pos j z hy
            omega
          rw [if_neg hzx, if_neg hzy, hzk]
    · have hkx : k ≠ x := fun e => hk (e ▸ List.mem_of_getElem? hx)
      have hky : k ≠ y := fun e => hk (e ▸ List.mem_of_getElem? hy)
      simp [hkx, hky]
    · exact (((((Frm.refl (fun k => k = b ∨ ∃ x, x < m ∧ k = A x) w).setCell ⟨b, i, none⟩ _ (fun _ => .inl rfl)).setCell ⟨b, j, none⟩ _ (fun _ => .inl rfl)).setCell ⟨A y, 9, none⟩ _ (fun _ => .inr ⟨y, hym, rfl⟩)).setCell ⟨A x, 9, none⟩ _ (fun _ => .inr ⟨x, hxm, rfl⟩)).drew.drew
  go_enter Ybaf.func25, Ybaf.ntmps25
  clear hA hH
  go_wp2_with fail
  go_region
  all_goals go_wp2_with fail
  all_goals go_region
  all_goals
    go_wp2_with fail
    go_end0
    exact ⟨rfl, hfin⟩
end Go.Proofs.YbulkaryoFmt
