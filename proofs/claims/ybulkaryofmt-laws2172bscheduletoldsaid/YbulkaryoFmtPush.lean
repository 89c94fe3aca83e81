/-
  slot; zzs2172bpush: an arrival goes to its slot.
-/
import Derived.Test.YbulkaryoFmtRemove
import Derived.Laws.Bits64b
namespace Go.Proofs.YbulkaryoFmt
open Go.RowKit
attribute [local go_sem] later

def slotOf (at_ : Nat) : Nat := at_ / 156250 % 128

set_option maxRecDepth 100000 in
theorem slot_ok (t : Nat) (w : World) (ht : t ≤ 10000000) : Calls Ybaf.prog 15 #[.int .i64 t] w fun en w' => en = .returned (.int .i64 (slotOf t)) ∧ w' = w := by
  have ht' : (t : Int) ≤ 10000000 := by omega
  have e : ((slotOf t : Nat) : Int) = (t : Int) / 156250 % 128 := by unfold slotOf; omega
  rw [e]
  clear e
  go_enter Ybaf.func15, Ybaf.ntmps15
  go_wp2_with fail
  go_ret
  exact ⟨rfl, rfl⟩

theorem owns_form {w : World} {B n : Nat} {e : TypeId} {size : Nat} {v : Value} {xs : List Value} (h : w.ownsRow B e size v n xs) : ∃ p c, v = .slice p n c ∧ n ≤ c ∧ c ≤ maxLen ∧ (0 < n → ∃ g, p = some ⟨g, 0, none⟩) := by
  rcases h.2 with ⟨rfl, rfl⟩ | ⟨g, cap, cur, rfl, _, _, h1, h2, _⟩
  · exact ⟨none, 0, rfl, Nat.le_refl _, Nat.zero_le _, fun h => absurd h (Nat.lt_irrefl _)⟩
  · exact ⟨_, cap, rfl, h1, h2, fun _ => ⟨g, rfl⟩⟩

theorem info35 : (Ybaf.prog.info? 35).map (fun i => (i.zero, i.size, i.bytes)) = some (some (.pointer none), 1, 8) := by kernel_rfl
theorem info_parts {e : TypeId} {z : Value} {s bts : Nat} (h : (Ybaf.prog.info? e).map (fun i => (i.zero, i.size, i.bytes)) = some (some z, s, bts)) : ∃ i, Ybaf.prog.info? e = some i ∧ i.zero = some z ∧ i.size = s ∧ i.bytes = bts := by
  cases hi : Ybaf.prog.info? e with
  | none => rw [hi] at h; cases h
  | some i =>
    rw [hi] at h
    simp only [Option.map_some, Option.some.injEq, Prod.mk.injEq] at h
    exact ⟨i, rfl, h.1, h.2.1, h.2.2⟩

/-- From (v, w) to (v', w') a row of the call's own has been appended to. -/
def Grew (v : Value) (w : World) (v' : Value) (w' : World) : Prop :=
  Frm (fun k => v.ownBlock = some k) w w' ∧ (v'.ownBlock = v.ownBlock ∨ ∃ k, v'.ownBlock = some k ∧ w.heap.size ≤ k)
theorem Grew.append {v v' : Value} {w w' : World} (hg : w.grownBy w' v.ownBlock) (hat : v'.ownBlock = v.ownBlock ∨ v'.ownBlock = some w.heap.size) : Grew v w v' w' :=
  ⟨Frm.grown hg, orMap hat id fun e => ⟨_, e, Nat.le_refl _⟩⟩
theorem src_new {W : World} {x : Value} {t tx e : TypeId} (hk : Ybaf.prog.underlying tx = some (.slice e)) (hx : x.oneCell' = true) {A : Nat} (hA : W.heap.size = A) : Src Ybaf.prog 1 tx (.slice (some ⟨A, 0, none⟩) 1 1) 1 [x] (W.alloc (.cells #[x] t)).drew := by
  subst hA
  refine Src.ofSlice _ hk ⟨W.heap.size, 0, none⟩ 1 1 [x] rfl (fun j u hu => ?_) (by intro u hu; simp at hu; subst hu; exact hx)
  rw [add_lit, Blk.cell (w := (W.alloc (.cells #[x] t)).drew) (cs := #[x]) (t := t) (Blk.new W #[x] t)]
  simpa using hu

/-- One more at the end: but for it the order stands. -/
theorem heap_snoc {d : Nat → Arr} {h : List Nat} {j : Nat} (hh : HeapF (fOf d h) h.length) : UpInv (fOf d (h ++ [j])) (h ++ [j]).length h.length := by
  have hf : ∀ i, i < h.length → fOf d (h ++ [j]) i = fOf d h i := fun i hi => by
    unfold fOf
    rw [List.getD, List.getD, List.getElem?_append_left hi]
  have hlen : (h ++ [j]).length = h.length + 1 := by simp
  refine ⟨fun i hi0 hiL hne => ?_, fun h0 i hi0 hiL hp => ?_⟩
  · rw [hf i (by omega), hf _ (by omega)]
    exact hh i hi0 (by omega)
  · omega

theorem pow_wrap (k : Nat) (hk : k < 64) : IntKind.u64.wrap ((2 : Int) ^ k) = ((2 ^ k : Nat) : Int) := by
  have h1 : (2 : Nat) ^ k ≤ 2 ^ 63 := Nat.pow_le_pow_right (by decide) (by omega)
  have h2 : ((2 : Int) ^ k) = ((2 ^ k : Nat) : Int) := by rw [Int.natCast_pow]; rfl
  rw [h2, IntKind.wrap_u64]
  clear h2
  generalize (2 : Nat) ^ k = q at h1 ⊢
  omega
theorem or_word (F k : Nat) (hF : F < 18446744073709551616) (hk : k < 64) : bits BinOp.or IntKind.u64 (F : Int) (IntKind.u64.wrap ((2 : Int) ^ k)) = ((F ||| 2 ^ k : Nat) : Int) := by
  have h1 : (2 : Nat) ^ k ≤ 2 ^ 63 := Nat.pow_le_pow_right (by decide) (by omega)
  rw [pow_wrap k hk, bits_or_u64_nat F _ hF (by omega)]

/-- Midway: the pointer is appended. -/
structure Mid (B m : Nat) (A : Nat → Nat) (d : Nat → Arr) (S : Nat) (cs : Array Value) (v : Value) (h : List Nat) (ix : Nat → Nat) (i j : Nat) (w w' : World) : Prop where
  ex : ∃ b cap, Blk w' S (cs.setIfInBounds (3 + i) (.slice (some ⟨b, 0, none⟩) (h.length + 1) cap)) 51 ∧ w'.ownsRow B 35 1 (.slice (some ⟨b, 0, none⟩) (h.length + 1) cap) (h.length + 1) ((h ++ [j]).map (ptr A)) ∧
    Arrs w' m A d (fun y => if y = j then h.length else ix y) ∧ (v.ownBlock = some b ∨ w.heap.size ≤ b) ∧ Frm (fun k => v.ownBlock = some k ∨ k = S ∨ ∃ x, x < m ∧ k = A x) w w'

/-- Behind a push. -/
structure Pushed (B m : Nat) (A : Nat → Nat) (d : Nat → Arr) (S : Nat) (cs : Array Value) (v : Value) (h : List Nat) (ix : Nat → Nat) (j F : Nat) (w w' : World) : Prop where
  ex : ∃ b cap h' ix', Blk w' S ((cs.setIfInBounds (3 + slotOf (d j).at_) (.slice (some ⟨b, 0, none⟩) (h.length + 1) cap)).setIfInBounds (131 + slotOf (d j).at_ / 64) (.int .u64 ((F ||| 2 ^ (slotOf (d j).at_ % 64) : Nat) : Int))) 51 ∧
    Arrs w' m A d ix' ∧ Hp w' B m A b cap h' ix' ∧ h'.length = h.length + 1 ∧ (∀ x, x ∈ h' ↔ x ∈ h ∨ x = j) ∧ (∀ x, x ∉ h → x ≠ j → ix' x = ix x) ∧ (HeapF (fOf d h) h.length → HeapF (fOf d h') h'.length) ∧
    (v.ownBlock = some b ∨ w.heap.size ≤ b) ∧ Frm (fun k => v.ownBlock = some k ∨ k = S ∨ ∃ x, x < m ∧ k = A x) w w'

set_option maxRecDepth 100000 in
set_option maxHeartbeats 2000000 in
theorem push_ok (B m : Nat) (A : Nat → Nat) (d : Nat → Arr) (S : Nat) (cs : Array Value) (v : Value) (h : List Nat) (ix : Nat → Nat) (j F : Nat) (w : World) (hS : Blk w S cs 51) (hj : j < m) (hat : (d j).at_ ≤ 10000000)
    (hv : cs[3 + slotOf (d j).at_]? = some v) (hF : cs[131 + slotOf (d j).at_ / 64]? = some (.int .u64 F)) (hA : Arrs w m A d ix) (hrow : w.ownsRow B 35 1 v h.length (h.map (ptr A))) (hmem : ∀ x ∈ h, x < m) (hpos : ∀ i x, h[i]? = some x → ix x = i) (hnew : j ∉ h) (hl : h.length < 1024) (hm : m ≤ 1024) (hB : B ≤ w.heap.size) (hSB : S < B) (hF64 : F < 18446744073709551616) :
    Calls Ybaf.prog 9 #[.pointer (some ⟨S, 3, none⟩), .pointer (some ⟨A j, 0, none⟩)] w fun en w' => en = .returned (.tuple #[]) ∧ Pushed B m A d S cs v h ix j F w w' := by
  obtain ⟨i, hi⟩ : ∃ i, i = slotOf (d j).at_ := ⟨_, rfl⟩
  rw [← hi] at hv hF
  have hi128 : i < 128 := by rw [hi]; exact Nat.mod_lt _ (by decide)
  have hi128' : (i : Int) < 128 := by omega
  have hi0 : (0 : Int) ≤ i := by omega
  obtain ⟨p, cap, rfl, hnc, hcm, hp⟩ := owns_form hrow
  have hl' : (h.length : Int) < 1024 := by omega
  have aj := (hA.blk j hj).cell 0 |>.trans (show _ = some (.int .i64 ((d j).at_ : Int)) from rfl)
  have aj9 := (hA.blk j hj).cell 9 |>.trans (show _ = some (.int .i64 (ix j : Int)) from rfl)
  have faj9 := (hA.blk j hj).frozen 9
  have cS := (hS.cell (3 + i)).trans hv
  have fS := hS.frozen (3 + i)
  go_enter Ybaf.func9, Ybaf.ntmps9
  go_wp2_with fail
  refine (slot_ok (d j).at_ _ hat).mono ?_
  rintro e w1 ⟨rfl, hw1⟩
  rw [hw1, ← hi]
  clear hw1 w1
  have hiH : Hid (i = slotOf (d j).at_) := hi
  clear hi
  go_upto_region 2 with fail
  go_name_world W hW
  have f1 : Frm (fun k => k = A j) w W := hW ▸ (Frm.refl (fun k => k = A j) w).setCell ⟨A j, 9, none⟩ _ (fun _ => rfl)
  have a1 : Arrs W m A d (fun y => if y = j then h.length else ix y) := hW ▸ hA.put hj h.length
  clear hW aj aj9 faj9 cS fS
  have hSA : ∀ y, y < m → S ≠ A y := fun y hy e => by
    have h1 := hA.blk y hy
    unfold Blk at h1 hS
    rw [← e, hS] at h1
    injection h1 with h1
    injection h1 with _ h1
    exact absurd h1 (by decide)
  have own1 : W.ownsRow B 35 1 (.slice p h.length cap) h.length (h.map (ptr A)) := f1.owns hrow (fun k hk e => owns_blk hrow (hA.blk j hj) (by decide) (by rw [← e]; exact hk))
  have hS1 := f1.blk hS (hSA j hj)
  have hWs := f1.size
  have cS := (hS1.cell (3 + i)).trans hv
  have fS := hS1.frozen (3 + i)
  have cF := (hS1.cell (131 + i / 64)).trans hF
  have a9 : W.cell? ⟨A j, 9, none⟩ = some (.int .i64 h.length) := by
    have := (a1.blk j hj).cell 9
    rw [if_pos rfl] at this
    exact this
  obtain ⟨j0, hj0, hjz, hjs, hjb⟩ := info_parts info35
  have hnS : ∀ k, (Value.slice p h.length cap).ownBlock = some k → B ≤ k := fun k hk => (hrow.lt k hk).1
  have kp : ∀ w1, Frm (fun k => (Value.slice p h.length cap).ownBlock = some k) W w1 → w1.cell? ⟨S, 3 + i, none⟩ = some (.slice p h.length cap) ∧ w1.frozen? ⟨S, 3 + i, none⟩ = false ∧ w1.cell? ⟨S, 131 + i / 64, none⟩ = some (.int .u64 F) := fun w1 hf => by
    have b1 := hf.blk hS1 (fun e => by have := hnS _ e; omega)
    exact ⟨(b1.cell _).trans hv, b1.frozen _, (b1.cell _).trans hF⟩
  have KP : Hid (∀ w1, Frm (fun k => (Value.slice p h.length cap).ownBlock = some k) W w1 → w1.cell? ⟨S, 3 + i, none⟩ = some (.slice p h.length cap) ∧ w1.frozen? ⟨S, 3 + i, none⟩ = false ∧ w1.cell? ⟨S, 131 + i / 64, none⟩ = some (.int .u64 F)) := kp
  clear kp
  have hAj : A j < W.heap.size := (a1.blk j hj).lt
  have hoffA : (⟨S, 3 + i, none⟩ : Addr) ≠ ⟨S, 131 + i / 64, none⟩ := fun e => by injection e with _ e; omega
  have hoffE : ∀ (w' : World) (v' : Value), (w'.setCell ⟨S, 3 + i, none⟩ v').cell? ⟨S, 131 + i / 64, none⟩ = w'.cell? ⟨S, 131 + i / 64, none⟩ := fun w' v' => World.cell?_setCell_other _ _ _ _ hoffA
  clear hoffA
  have HA : Hid (Arrs W m A d (fun y => if y = j then h.length else ix y)) := a1
  have HS : Hid (Blk W S cs 51) := hS1
  have HF : Hid (cs[131 + i / 64]? = some (.int .u64 F)) := hF
  have HV : Hid (cs[3 + i]? = some (.slice p h.length cap)) := hv
  have HP : Hid ((∀ x ∈ h, x < m) ∧ (∀ i x, h[i]? = some x → ix x = i) ∧ j ∉ h) := ⟨hmem, hpos, hnew⟩
  have HO : Hid (∀ y, y < m → S ≠ A y) := hSA
  have HB : Hid (∀ x, x < m → (Value.slice p h.length cap).ownBlock ≠ some (A x)) := fun x hx => owns_blk own1 (a1.blk x hx) (by decide)
  have HN : Hid (∀ k, (Value.slice p h.length cap).ownBlock = some k → B ≤ k) := hnS
  clear a1 hS1 hF hv hmem hpos hnew hSA hnS hA hS hp hat hrow
  have n1 : W.heap.size ≠ S := by omega
  have n2 : W.heap.size ≠ A j := by omega
  have cSa : ∀ ob : Obj, (W.alloc ob).cell? ⟨S, 3 + i, none⟩ = some (.slice p h.length cap) := fun ob => (((Frm.refl (fun _ => False) W).alloc ob).cell (a := ⟨S, 3 + i, none⟩) (by show S < W.heap.size; omega) id).trans cS
  have hf0 : Hid (Frm (fun k => (Value.slice p h.length cap).ownBlock = some k ∨ k = S ∨ ∃ x, x < m ∧ k = A x) w W) := f1.mono (fun k _ e => .inr (.inr ⟨j, hj, e⟩))
  go_cut [4] (fun s4 wx => s4 = .int .i64 i ∧ Mid B m A d S cs (.slice p h.length cap) h ix i j w wx)
  case first =>
    have hmid : Hid (∀ (p1 : Option Addr) (n1 : Nat) (w1 : World), Frm (fun k => (Value.slice p h.length cap).ownBlock = some k) W w1 → w1.ownsRow B 35 1 (.slice p1 (h.length + 1) n1) (h.length + 1) (h.map (ptr A) ++ [.pointer (some ⟨A j, 0, none⟩)]) → ((Value.slice p1 (h.length + 1) n1).ownBlock = (Value.slice p h.length cap).ownBlock ∨ ∃ k, (Value.slice p1 (h.length + 1) n1).ownBlock = some k ∧ W.heap.size ≤ k) → Mid B m A d S cs (.slice p h.length cap) h ix i j w (w1.setCell ⟨S, 3 + i, none⟩ (.slice p1 (h.length + 1) n1))) := fun p1 n1 w1 hf ho hb => by
      obtain ⟨_, _, e0, _, _, hp1⟩ := owns_form ho
      injection e0 with e0 _ _
      obtain ⟨b, hb0⟩ := hp1 (Nat.succ_pos _)
      rw [← e0] at hb0
      subst hb0
      have hbB : B ≤ b := (ho.lt b rfl).1
      have fS2 : Frm (fun k => k = S) w1 (w1.setCell ⟨S, 3 + i, none⟩ (.slice (some ⟨b, 0, none⟩) (h.length + 1) n1)) := (Frm.refl (fun k => k = S) w1).setCell ⟨S, 3 + i, none⟩ _ (fun _ => rfl)
      refine ⟨b, n1, (hf.blk HS.out (fun e => by have := HN.out _ e; omega)).same _ _, ?_, (HA.out.frm hf (fun x hx e => HB.out x hx e)).frm fS2 (fun x hx e => HO.out x hx e.symm), ?_, ((hf0.out.trans hf (fun _ _ e => .inl e)).trans fS2 (fun _ _ e => .inr (.inl e)))⟩
      · rw [List.map_append]
        exact fS2.owns ho (fun k hk e => by have : b = k := Option.some.inj hk; omega)
      · rcases hb with hb | ⟨k, hb, hk⟩
        · exact .inl hb.symm
        · have : b = k := Option.some.inj hb
          right
          omega
    rw [show Op.load 39 (Operand.tmp 26) = later (Op.load 39 (Operand.tmp 26)) from rfl]
    go_region_held3 (fun w' => w'.cell? ⟨S, 131 + i / 64, none⟩ = some (.int .u64 F)) (go_keep) (first
      | (refine step_append_src _ (by rfl) _ _ 39 39 (by rfl) B 35 j0 _ 1 8 Ybaf.underlying39 hj0 hjz hjs hjb rfl (.slice p h.length cap) _ _ (by rfl) (by exact own1.alloc _) _ (by rfl) 1 [.pointer (some ⟨A j, 0, none⟩)] (src_new (t := 35) Ybaf.underlying39 rfl rfl) (by omega) (by omega) (by simp; omega) ?_; intro v1 w1 own2 gw1 hat1; have g1 : Frm (fun k => (Value.slice p h.length cap).ownBlock = some k) W w1 := ((Frm.refl _ W).alloc _).drew.trans (Frm.grown gw1) (fun _ _ h => h); obtain ⟨k1, k2, k3⟩ := (KP.out w1 g1); obtain ⟨p1, n1', rfl, _, _, hp1⟩ := owns_form own2))
    all_goals
      go_wp2_with fail
      go_meet
      exact ⟨rfl, hmid.out _ _ _ g1 own2 (orMap (Grew.append (v := .slice p h.length cap) gw1 hat1).2 id (fun ⟨k, e, hk⟩ => ⟨k, e, by simp at hk; omega⟩))⟩
  case rest =>
    obtain ⟨rfl, hMid⟩ := hcut
    obtain ⟨b, cap2, hS2, own2, hA2, hb2, hf2⟩ := hMid
    have hcs : cs.size = cs.size := rfl
    have hsz3 : 3 + i < cs.size := (Array.getElem?_eq_some_iff.1 HV.out).1
    have hszF : 131 + i / 64 < cs.size := (Array.getElem?_eq_some_iff.1 HF.out).1
    have q3 : (cs.setIfInBounds (3 + i) (.slice (some ⟨b, 0, none⟩) (h.length + 1) cap2))[3 + i]? = some (.slice (some ⟨b, 0, none⟩) (h.length + 1) cap2) := Array.getElem?_setIfInBounds_self_of_lt hsz3
    have qF : (cs.setIfInBounds (3 + i) (.slice (some ⟨b, 0, none⟩) (h.length + 1) cap2))[131 + i / 64]? = some (.int .u64 F) := by
      rw [Array.getElem?_setIfInBounds_ne (by omega)]
      exact HF.out
    have hlj : (h ++ [j]).length = h.length + 1 := by simp
    have hH2 : Hp wc B m A b cap2 (h ++ [j]) (fun y => if y = j then h.length else ix y) := by
      refine ⟨by rw [hlj]; exact own2, fun x hx => ?_, fun k x hx => ?_⟩
      · rcases List.mem_append.1 hx with hx | hx
        · exact HP.out.1 x hx
        · rw [List.mem_singleton.1 hx]
          exact hj
      · by_cases hk : k < h.length
        · rw [List.getElem?_append_left hk] at hx
          have hxj : x ≠ j := fun e => HP.out.2.2 (e ▸ List.mem_of_getElem? hx)
          rw [if_neg hxj]
          exact HP.out.2.1 k x hx
        · have hk2 : k < (h ++ [j]).length := (List.getElem?_eq_some_iff.1 hx).1
          have hk3 : k = h.length := by omega
          subst hk3
          rw [List.getElem?_append_right (Nat.le_refl _), Nat.sub_self] at hx
          have : j = x := Option.some.inj hx
          rw [if_pos this.symm]
    have cS2 := (hS2.cell (3 + i)).trans q3
    have a92 : wc.cell? ⟨A j, 9, none⟩ = some (.int .i64 h.length) := by
      have := (hA2.blk j hj).cell 9
      rw [if_pos rfl] at this
      exact this
    have hbS : b ≠ S := fun e => owns_blk own2 hS2 (by decide) (by rw [← e]; rfl)
    have hkeep : Hid (∀ w', Frm (fun k => k = b ∨ ∃ x, x < m ∧ k = A x) wc w' → Blk w' S (cs.setIfInBounds (3 + i) (.slice (some ⟨b, 0, none⟩) (h.length + 1) cap2)) 51) := fun w' hf => hf.blk hS2 (fun e => by rcases e with e | ⟨x, hx, e⟩; (· exact hbS e.symm); (· exact HO.out x hx e))
    have HUP : Hid (∀ w', Arrs w' m A d (fun y => if y = j then h.length else ix y) → Hp w' B m A b cap2 (h ++ [j]) (fun y => if y = j then h.length else ix y) → Calls Ybaf.prog 16 #[.slice (some ⟨b, 0, none⟩) (h.length + 1) cap2, .int .i64 h.length] w' (fun en w'' => ∃ k' : Nat, en = .returned (.int .i64 k') ∧ k' < h.length + 1 ∧ Upped B m A d b cap2 (h ++ [j]) (fun y => if y = j then h.length else ix y) h.length w' k' w'')) := fun w' h1 h2 => by
      have := up_ok B m A d b cap2 (h ++ [j]) _ h.length w' h1 h2 (by omega) (by omega) hm
      rw [hlj] at this
      exact this
    have HH2 : Hid (Hp wc B m A b cap2 (h ++ [j]) (fun y => if y = j then h.length else ix y)) := hH2
    have HA2 : Hid (Arrs wc m A d (fun y => if y = j then h.length else ix y)) := hA2
    have HF2 : Hid (Frm (fun k => (Value.slice p h.length cap).ownBlock = some k ∨ k = S ∨ ∃ x, x < m ∧ k = A x) w wc) := hf2
    clear hH2 hA2 hf2 hS2 own2 own1 hcs hlj hbS q3 cS fS cF a9 cSa hoffE KP f1 hf0
    go_upto_region 3 with fail
    rw [show Op.load 3 (Operand.tmp 42) = later (Op.load 3 (Operand.tmp 42)) from rfl]
    go_region_held3 (fun w' => w'.cell? ⟨S, 3 + i, none⟩ = some (.slice (some ⟨b, 0, none⟩) (h.length + 1) cap2)) (go_keep) (first
      | (go_at_call 16; refine (HUP.out _ (by exact ⟨fun x hx => HA2.out.blk x hx, HA2.out.inj⟩) (by exact ⟨HH2.out.row, HH2.out.mem, HH2.out.pos⟩)).mono ?_; rintro e w1 ⟨k1, rfl, hk1l, hUp⟩; obtain ⟨h1, ix2, hM1, _, hord⟩ := hUp; have bS1 := hkeep.out w1 ((Frm.refl _ wc).drew.trans hM1.frm (fun _ _ h => h)); have c1 : w1.cell? ⟨S, 3 + i, none⟩ = some (.slice (some ⟨b, 0, none⟩) (h.length + 1) cap2) := (bS1.cell _).trans (Array.getElem?_setIfInBounds_self_of_lt hsz3)))
    have cF1 : w1.cell? ⟨S, 131 + i / 64, none⟩ = some (.int .u64 F) := (bS1.cell _).trans qF
    have fF1 := bS1.frozen (131 + i / 64)
    have HM1 : Hid (Moved B m A d b cap2 (h ++ [j]) (fun y => if y = j then h.length else ix y) wc.drew h1 ix2 w1) := hM1
    have HS1 : Hid (Blk w1 S (cs.setIfInBounds (3 + i) (.slice (some ⟨b, 0, none⟩) (h.length + 1) cap2)) 51) := bS1
    have HORD : Hid (UpInv (fOf d (h ++ [j])) (h ++ [j]).length h.length → HeapF (fOf d h1) (h ++ [j]).length) := hord
    clear hM1 bS1 hord c1 cS2 a92 qF
    have hi64 : (i : Int) / 64 < 2 := by omega
    have hi640 : (0 : Int) ≤ (i : Int) / 64 := by omega
    go_upto_region 4 with fail
    go_region
    all_goals
      go_wp2_with fail
      go_end0
      rw [or_word F (i % 64) hF64 (by omega)]
      refine ⟨rfl, ⟨b, cap2, h1, ix2, ?_, ?_, ?_, ?_, ?_, ?_, ?_, ?_, ?_⟩⟩
      · rw [← hiH.out]
        exact HS1.out.same _ _
      · exact (HM1.out.arr.frm (S := fun k => k = S) ((Frm.refl (fun k => k = S) w1).setCell ⟨S, 131 + i / 64, none⟩ _ (fun _ => rfl)).drew (fun x hx e => HO.out x hx e.symm))
      · refine ⟨?_, HM1.out.hp.mem, HM1.out.hp.pos⟩
        exact ((Frm.refl (fun k => k = S) w1).setCell ⟨S, 131 + i / 64, none⟩ _ (fun _ => rfl)).drew.owns HM1.out.hp.row (fun k hk e => by have := (HM1.out.hp.row.lt k hk).1; omega)
      · rw [HM1.out.len]
        simp
      · intro x
        rw [HM1.out.mem x, List.mem_append, List.mem_singleton]
      · intro x hx hxj
        rw [HM1.out.out x (fun hx' => by rcases List.mem_append.1 hx' with h' | h'; (· exact hx h'); (· exact hxj (List.mem_singleton.1 h')))]
        exact if_neg hxj
      · intro hh
        rw [HM1.out.len]
        exact HORD.out (heap_snoc hh)
      · exact hb2
      · refine ((HF2.out.trans ((Frm.refl (fun k => k = b ∨ ∃ x, x < m ∧ k = A x) wc).drew.trans HM1.out.frm (fun _ _ h => h)) (fun k hk e => ?_)).trans ((Frm.refl (fun k => k = S) w1).setCell ⟨S, 131 + i / 64, none⟩ _ (fun _ => rfl)).drew (fun _ _ e => .inr (.inl e)))
        rcases e with e | e
        · rcases hb2 with hb | hb
          · exact .inl (by rw [e]; exact hb)
          · omega
        · exact .inr (.inr e)
end Go.Proofs.YbulkaryoFmt
