/-
  total.supply and, for a member, total.goOn.
-/
import Derived.Test.YbulkaryoPass
namespace Go.Proofs.Ybulkaryo
open Go.RowKit
attribute [local go_sem] later

/-- A cell of P beside the kept sequence is stored. -/
theorem Kept.put {w : World} {B P : Nat} {cs : Array Value} {va vb ve : Value} {made : Bool} {arrs : List (Value × List UInt8)} {es : List Kep} (h : Kept w B P cs va vb ve made arrs es) (j : Nat) (v : Value) (hj : j < 9 ∨ 14 < j) : Kept (w.setCell ⟨P, j, none⟩ v) B P (cs.setIfInBounds j v) va vb ve made arrs es := by
  have hlow := h.low
  have hf : Frm (fun k => k = P) w (w.setCell ⟨P, j, none⟩ v) := (Frm.refl _ _).setCell _ _ (fun _ => rfl)
  have hk : ∀ {e : TypeId} {size n : Nat} {x : Value} {xs : List Value}, w.ownsRow B e size x n xs → (w.setCell ⟨P, j, none⟩ v).ownsRow B e size x n xs := fun ho => hf.owns ho fun k hk e => by have := (owns_lt ho k hk).1; omega
  have hn : ∀ i, 9 ≤ i → i ≤ 14 → (cs.setIfInBounds j v)[i]? = cs[i]? := fun i h1 h2 => Array.getElem?_setIfInBounds_ne (by omega)
  exact {
    low := hlow
    pb := h.pb.same j v
    big := by rw [Array.size_setIfInBounds]; exact h.big
    rel := (hn 9 (by omega) (by omega)).trans h.rel
    hd := (hn 11 (by omega) (by omega)).trans h.hd
    sp := (hn 12 (by omega) (by omega)).trans h.sp
    dr := (hn 14 (by omega) (by omega)).trans h.dr
    c13 := (hn 13 (by omega) (by omega)).trans h.c13
    c10 := (hn 10 (by omega) (by omega)).trans h.c10
    ownA := hk h.ownA
    ownX := fun p hp => hk (h.ownX p hp)
    ownB := by
      have hb := h.ownB
      cases made with
      | true =>
        simp only [if_true] at hb ⊢
        exact hk hb
      | false => exact hb
    ownE := hk h.ownE
    apAB := h.apAB
    apAE := h.apAE
    apBE := h.apBE
    apXA := h.apXA
    apXB := h.apXB
    apXE := h.apXE
    apXX := h.apXX
    ok := h.ok }

theorem nat_int_beq (a b : Nat) : ((a : Int) == (b : Int)) = (a == b) := by
  rw [Bool.eq_iff_iff]
  simp
  omega

/-- A list, or nothing. -/
def onlyIf {α : Type} (b : Bool) (l : List α) : List α := if b then l else []

/-- WHAT STANDS BEHIND A CHANGE's STEP: the memory of the kept sequence as before; one flag may be set; what has been sent besides. -/
structure Sent (w : World) (B E P : Nat) (cs : Array Value) (va vb ve : Value) (made : Bool) (arrs : List (Value × List UInt8)) (es : List Kep) (z : Value) (L : List Snt) (says : List Said) (fl : Bool) (w' : World) : Prop where
  ex : ∃ cs' sv' M, Kept w' B P cs' va vb ve made arrs es ∧ Blk w' E #[sv', z] 27 ∧ Frames w' B sv' (L ++ M) ∧ Frm (fun k => k = E ∨ k = P ∨ B ≤ k) w w' ∧ (∀ j, j ≠ 34 → cs'[j]? = cs[j]?) ∧ M.map Snt.said = says ∧ cs'[34]? = some (.bool fl)

set_option maxRecDepth 100000 in
set_option maxHeartbeats 1000000 in
theorem supply_ok (ld tg k0 N g c : Nat) (hv flag : Bool) (B E P : Nat) (cs : Array Value) (va vb ve : Value) (made : Bool) (arrs : List (Value × List UInt8)) (es : List Kep) (sv z : Value) (L : List Snt) (w : World)
    (hK : Kept w B P cs va vb ve made arrs es) (h0 : cs[0]? = some (.iface 24 (.pointer (some ⟨E, 0, none⟩)))) (h6 : cs[6]? = some (.int .u64 es.length)) (h2 : cs[2]? = some (.int .i64 ld)) (h33 : cs[33]? = some (.slice (some ⟨g, 0, none⟩) N c)) (h34 : cs[34]? = some (.bool flag))
    (m0 : w.cell? ⟨g, ld * 3, none⟩ = some (.bool hv)) (m1 : w.cell? ⟨g, ld * 3 + 1, none⟩ = some (.int .u64 k0)) (m2 : w.cell? ⟨g, ld * 3 + 2, none⟩ = some (.int .i64 tg)) (hld : ld < N) (hN : N ≤ 1024)
    (hE : Blk w E #[sv, z] 27) (hEB : E < B) (hF : Frames w B sv L) (hB : B ≤ w.heap.size)
    (hes : es.length ≤ 1024) (hL : L.length + es.length ≤ 1048576) (hbd : ∀ p ∈ arrs, p.2.length ≤ 1073741824) (hfit : ∀ y ∈ es, y.e.fr < 256 ∧ y.e.seq < 18446744073709551616 ∧ y.e.name.size + y.e.body.length ≤ 1048576) (hk0 : k0 < 256) :
    Calls Yba.prog 12 #[.pointer (some ⟨P, 0, none⟩)] w fun en w' => en = .returned (.tuple #[]) ∧
      Sent w B E P cs va vb ve made arrs es z L (onlyIf (!flag && hv && tg == ld) (framesOf ld k0 ((es.map (·.e)).drop k0))) (flag || (hv && tg == ld)) w' := by
  have hEP : E ≠ P := blk_ne hE hK.pb (by decide)
  have hlow := hK.low
  have hPw := hK.pb.lt
  have c2 := (hK.pb.cell 2).trans h2
  have c33 := (hK.pb.cell 33).trans h33
  have c34 := (hK.pb.cell 34).trans h34
  have hgw : g < w.heap.size := World.block_lt_of_cell? w ⟨g, ld * 3, none⟩ m0
  have n1 : w.heap.size ≠ P := by omega
  have n2 : w.heap.size ≠ g := by omega
  have l0 : (0 : Int) ≤ ld := by omega
  have l1 : (ld : Int) < N := by omega
  have l2 : (N : Int) ≤ 1024 := by omega
  go_enter Yba.func12, Yba.ntmps12
  go_upto_region 0 with fail
  go_region_held3 (fun w' => w'.cell? ⟨P, 2, none⟩ = some (.int .i64 ld) ∧ w'.cell? ⟨P, 33, none⟩ = some (.slice (some ⟨g, 0, none⟩) N c) ∧ w'.cell? ⟨g, ld * 3, none⟩ = some (.bool hv) ∧ w'.cell? ⟨g, ld * 3 + 1, none⟩ = some (.int .u64 k0) ∧ w'.cell? ⟨g, ld * 3 + 2, none⟩ = some (.int .i64 tg)) (go_keep) (fail)
  go_upto_region 1 with fail
  go_name_world W hW
  have hf : Frm (fun _ => False) w W := hW ▸ ((Frm.refl _ w).alloc _).drew
  have bX : Blk W w.heap.size #[.bool hv, .int .u64 k0, .int .i64 tg] 50 := hW ▸ Blk.new w _ 50
  clear hW c2 c33 c34
  have hK1 := hK.frm hf id (fun _ _ _ => id)
  have hE1 := hf.blk hE id
  have hF1 := hF.frm hf (fun _ _ _ => id)
  have c2 := (hK1.pb.cell 2).trans h2
  have c34 := (hK1.pb.cell 34).trans h34
  have x0 := (bX.cell 0).trans (show _ = some (.bool hv) from rfl)
  have x1 := (bX.cell 1).trans (show _ = some (.int .u64 k0) from rfl)
  have x2 := (bX.cell 2).trans (show _ = some (.int .i64 tg) from rfl)
  go_cut [30] (fun s30 wx => s30 = .bool (!(!flag && hv && tg == ld)) ∧ ∃ q, wx = W.drewN q)
  case first =>
    clear hK hF hK1 hE1 hF1 hfit hbd hE hf bX m0 m1 m2
    cases flag
    · cases hv
      · go_quiet (fail)
        go_wp2_with fail
        go_meet
        exact ⟨rfl, _, rfl⟩
      · go_quiet (fail)
        go_wp2_with fail
        go_meet
        refine ⟨congrArg Value.bool ?_, _, rfl⟩
        simp [bne, nat_int_beq]
    · go_quiet (fail)
      go_wp2_with fail
      go_meet
      exact ⟨by simp, _, rfl⟩
  case rest =>
    obtain ⟨rfl, q, hwc⟩ := hcut
    have hf2 := hf.drewN q
    rw [← hwc] at hf2
    have bX2 : Blk wc w.heap.size #[.bool hv, .int .u64 k0, .int .i64 tg] 50 := hwc ▸ bX.drewN q
    clear hwc c2 c34 x0 x1 x2 hK1 hE1 hF1 hf bX
    have hK2 := hK.frm hf2 id (fun _ _ _ => id)
    have hE2 := hf2.blk hE id
    have hF2 := hF.frm hf2 (fun _ _ _ => id)
    by_cases hgo : (!flag && hv && tg == ld) = true
    · rw [hgo]
      have c34 := (hK2.pb.cell 34).trans h34
      have f34 := hK2.pb.frozen 34
      have x1 := (bX2.cell 1).trans (show _ = some (.int .u64 k0) from rfl)
      go_upto_region 3 with fail
      go_name_world W3 hW3
      have hK3 : Kept W3 B P (cs.setIfInBounds 34 (.bool true)) va vb ve made arrs es := hW3 ▸ hK2.put 34 _ (by omega)
      have hf3 : Frm (fun k => k = P) wc W3 := hW3 ▸ (Frm.refl _ wc).setCell _ _ (fun _ => rfl)
      clear hW3 c34 f34 x1
      have hE3 := hf3.blk hE2 hEP
      have hF3 := hF2.frm hf3 (fun k hk _ e => by omega)
      have bX3 := hf3.blk bX2 (by omega)
      have hsame : ∀ j, j ≠ 34 → (cs.setIfInBounds 34 (.bool true))[j]? = cs[j]? := fun j hj => Array.getElem?_setIfInBounds_ne (Ne.symm hj)
      have c2 := (hK3.pb.cell 2).trans ((hsame 2 (by decide)).trans h2)
      have x1 := (bX3.cell 1).trans (show _ = some (.int .u64 k0) from rfl)
      have hB3 : B ≤ W3.heap.size := Nat.le_trans hB (Nat.le_trans hf2.size hf3.size)
      have hbig := hK.big
      have hgo2 : flag = false ∧ hv = true ∧ tg = ld := by
        simpa [and_assoc] using hgo
      rw [show Op.load 33 (Operand.tmp 39) = later (Op.load 33 (Operand.tmp 39)) from rfl]
      go_region_held3 (fun w' => w'.cell? ⟨P, 2, none⟩ = some (.int .i64 ld)) (go_keep) (first
        | (go_at_call 16; refine (pass_ok ld k0 B E P _ va vb ve made arrs es sv z L _ (by exact hK3.drew) ((hsame 0 (by decide)).trans h0) ((hsame 6 (by decide)).trans h6) (by exact hE3) hEB (by exact ⟨hF3.row, hF3.bytes⟩) (by exact hB3) hes hL hbd hfit hk0).mono ?_; rintro e w4 ⟨rfl, sv4, M, hK4, hE4, hF4, hM, f4⟩; have d2 := (hK4.pb.cell 2).trans ((hsame 2 (by decide)).trans h2)))
      go_end0
      refine ⟨rfl, ⟨_, sv4, M, hK4, hE4, hF4, ?_, hsame, ?_, ?_⟩⟩
      · exact ((hf2.mono (T := fun k => k = E ∨ k = P ∨ B ≤ k) (fun _ _ h => h.elim)).trans hf3.drew (fun _ _ h => .inr (.inl h))).trans f4 (fun _ _ h => orMap h id .inr)
      · rw [hgo, onlyIf, if_pos rfl]
        exact hM
      · rw [Array.getElem?_setIfInBounds_self_of_lt (by omega)]
        simp [hgo2]
    · have hgo' : (!flag && hv && tg == ld) = false := by simpa using hgo
      rw [hgo']
      go_wp2_with fail
      try simp only [Exit.inBlock, Exit.then]
      refine bodyPost_ret (results_none rfl _ _ _) rfl ?_
      refine ⟨rfl, ⟨cs, sv, [], hK2, hE2, by simpa using hF2, hf2.mono (fun _ _ h => h.elim), fun _ _ => rfl, ?_, ?_⟩⟩
      · first | rfl | (rw [hgo']; rfl)
      · rw [h34]
        cases flag
        · cases hv
          · rfl
          · have hgo2 : (tg == ld) = false := by simpa using hgo'
            rw [hgo2]
            rfl
        · rfl

set_option maxRecDepth 100000 in
set_option maxHeartbeats 1000000 in
theorem goOn_member (me ld tg k0 N g c : Nat) (hv flag chg : Bool) (B E P : Nat) (cs : Array Value) (va vb ve : Value) (made : Bool) (arrs : List (Value × List UInt8)) (es : List Kep) (sv z : Value) (L : List Snt) (w : World)
    (hK : Kept w B P cs va vb ve made arrs es) (h0 : cs[0]? = some (.iface 24 (.pointer (some ⟨E, 0, none⟩)))) (h6 : cs[6]? = some (.int .u64 es.length)) (h1 : cs[1]? = some (.int .i64 me)) (h2 : cs[2]? = some (.int .i64 ld)) (h31 : cs[31]? = some (.bool chg)) (h33 : cs[33]? = some (.slice (some ⟨g, 0, none⟩) N c)) (h34 : cs[34]? = some (.bool flag))
    (m0 : w.cell? ⟨g, ld * 3, none⟩ = some (.bool hv)) (m1 : w.cell? ⟨g, ld * 3 + 1, none⟩ = some (.int .u64 k0)) (m2 : w.cell? ⟨g, ld * 3 + 2, none⟩ = some (.int .i64 tg)) (hld : ld < N) (hN : N ≤ 1024) (hne : ld ≠ me)
    (hE : Blk w E #[sv, z] 27) (hEB : E < B) (hF : Frames w B sv L) (hB : B ≤ w.heap.size)
    (hes : es.length ≤ 1024) (hL : L.length + es.length ≤ 1048576) (hbd : ∀ p ∈ arrs, p.2.length ≤ 1073741824) (hfit : ∀ y ∈ es, y.e.fr < 256 ∧ y.e.seq < 18446744073709551616 ∧ y.e.name.size + y.e.body.length ≤ 1048576) (hk0 : k0 < 256) :
    Calls Yba.prog 8 #[.pointer (some ⟨P, 0, none⟩)] w fun en w' => en = .returned .nilIface ∧
      Sent w B E P cs va vb ve made arrs es z L (onlyIf (chg && !flag && hv && tg == ld) (framesOf ld k0 ((es.map (·.e)).drop k0))) (flag || (chg && hv && tg == ld)) w' := by
  have c1 := (hK.pb.cell 1).trans h1
  have c2 := (hK.pb.cell 2).trans h2
  have c31 := (hK.pb.cell 31).trans h31
  have hne' : ¬ (ld : Int) = me := by omega
  go_enter Yba.func8, Yba.ntmps8
  cases chg
  · go_wp2_with fail
    go_ret
    refine ⟨rfl, ⟨cs, sv, [], hK, hE, by simpa using hF, Frm.refl _ _, fun _ _ => rfl, by simp [onlyIf], by simp [h34]⟩⟩
  · go_upto_region 3 with fail
    go_quiet (fail)
    go_wp2_with fail
    refine (supply_ok ld tg k0 N g c hv flag B E P cs va vb ve made arrs es sv z L _ (hK.frm (S := fun _ => False) ((Frm.refl _ _).drewN _) id (fun _ _ _ => id)) h0 h6 h2 h33 h34 (by exact m0) (by exact m1) (by exact m2) hld hN (hE.drewN _) hEB (hF.frm (S := fun _ => False) ((Frm.refl _ _).drewN _) (fun _ _ _ => id)) (by exact hB) hes hL hbd hfit hk0).mono ?_
    rintro e w1 ⟨rfl, hsent⟩
    go_wp2_with fail
    go_ret
    obtain ⟨cs', sv', M, hK1, hE1, hF1, hf1, hs, hM, h34'⟩ := hsent
    exact ⟨rfl, ⟨cs', sv', M, hK1, hE1, hF1, ((Frm.refl _ w).drewN _).trans hf1 (fun _ _ h => h), hs, by simpa using hM, by simpa using h34'⟩⟩
end Go.Proofs.Ybulkaryo
