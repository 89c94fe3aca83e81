/-
  total.dropJoin, total.relayHeld with nothing held, total.startJoin with nobody asking.
-/
import Derived.Test.YbulkaryoOthers
namespace Go.Proofs.Ybulkaryo
open Go.RowKit

/-- P behind stores of its own: the cells of 'ex' may have turned. -/
structure Turned (w : World) (P : Nat) (cs : Array Value) (ok : Nat → Prop) (more : Array Value → Prop) (w' : World) : Prop where
  ex : ∃ cs', Blk w' P cs' 48 ∧ cs'.size = cs.size ∧ (∀ j, ok j → cs'[j]? = cs[j]?) ∧ more cs' ∧ Frm (fun k => k = P) w w'

set_option maxRecDepth 100000 in
set_option maxHeartbeats 1000000 in
theorem dropJoin_ok (P : Nat) (cs : Array Value) (w : World) (hP : Blk w P cs 48) (hbig : 36 ≤ cs.size) :
    Calls Yba.prog 20 #[.pointer (some ⟨P, 0, none⟩)] w fun en w' => en = .returned (.tuple #[]) ∧ Turned w P cs (fun j => j ≠ 17 ∧ j ≠ 19 ∧ j ≠ 23) (fun cs' => cs'[23]? = some (.pointer none)) w' := by
  obtain ⟨u17, h17⟩ : ∃ u, cs[17]? = some u := ⟨cs[17], by simp [show 17 < cs.size by omega]⟩
  obtain ⟨u19, h19⟩ : ∃ u, cs[19]? = some u := ⟨cs[19], by simp [show 19 < cs.size by omega]⟩
  obtain ⟨u23, h23⟩ : ∃ u, cs[23]? = some u := ⟨cs[23], by simp [show 23 < cs.size by omega]⟩
  have c17 := (hP.cell 17).trans h17
  have c19 := (hP.cell 19).trans h19
  have c23 := (hP.cell 23).trans h23
  have f17 := hP.frozen 17
  have f19 := hP.frozen 19
  have f23 := hP.frozen 23
  have hfin : Turned w P cs (fun j => j ≠ 17 ∧ j ≠ 19 ∧ j ≠ 23) (fun cs' => cs'[23]? = some (.pointer none)) (((w.setCell ⟨P, 23, none⟩ (.pointer none)).setCell ⟨P, 17, none⟩ (.int .i64 0)).setCell ⟨P, 19, none⟩ (.bool false)) := by
    refine ⟨_, ((hP.same 23 _).same 17 _).same 19 _, by simp, fun j hj => ?_, ?_, (((Frm.refl (fun k => k = P) w).setCell ⟨P, 23, none⟩ _ (fun _ => rfl)).setCell ⟨P, 17, none⟩ _ (fun _ => rfl)).setCell ⟨P, 19, none⟩ _ (fun _ => rfl)⟩
    · rw [Array.getElem?_setIfInBounds_ne (Ne.symm hj.2.1), Array.getElem?_setIfInBounds_ne (Ne.symm hj.1), Array.getElem?_setIfInBounds_ne (Ne.symm hj.2.2)]
    · show (((cs.setIfInBounds 23 _).setIfInBounds 17 _).setIfInBounds 19 _)[23]? = _
      rw [Array.getElem?_setIfInBounds_ne (by decide), Array.getElem?_setIfInBounds_ne (by decide), Array.getElem?_setIfInBounds_self_of_lt (by omega)]
  clear hP
  go_enter Yba.func20, Yba.ntmps20
  go_wp2_with fail
  go_end0
  exact ⟨rfl, hfin⟩

set_option maxRecDepth 100000 in
set_option maxHeartbeats 1000000 in
theorem relayHeld_ok (P : Nat) (cs : Array Value) (w : World) (hP : Blk w P cs 48) (hbig : 36 ≤ cs.size) (h16 : cs[16]? = some (.slice none 0 0)) :
    Calls Yba.prog 21 #[.pointer (some ⟨P, 0, none⟩)] w fun en w' => en = .returned (.tuple #[]) ∧ Turned w P cs (fun j => j ≠ 16 ∧ j ≠ 17) (fun _ => True) w' := by
  obtain ⟨u17, h17⟩ : ∃ u, cs[17]? = some u := ⟨cs[17], by simp [show 17 < cs.size by omega]⟩
  have c16 := (hP.cell 16).trans h16
  have c17 := (hP.cell 17).trans h17
  have f16 := hP.frozen 16
  have f17 := hP.frozen 17
  have hfin : Turned w P cs (fun j => j ≠ 16 ∧ j ≠ 17) (fun _ => True) ((w.setCell ⟨P, 16, none⟩ (.slice none 0 0)).setCell ⟨P, 17, none⟩ (.int .i64 0)) := by
    refine ⟨_, (hP.same 16 _).same 17 _, by simp, fun j hj => ?_, trivial, ((Frm.refl (fun k => k = P) w).setCell ⟨P, 16, none⟩ _ (fun _ => rfl)).setCell ⟨P, 17, none⟩ _ (fun _ => rfl)⟩
    rw [Array.getElem?_setIfInBounds_ne (Ne.symm hj.2), Array.getElem?_setIfInBounds_ne (Ne.symm hj.1)]
  clear hP
  go_enter Yba.func21, Yba.ntmps21
  go_wp2_with fail
  go_loopw [17] (fun i wr => i = .int .i64 0 ∧ wr = (w.setCell ⟨P, 16, none⟩ (.slice none 0 0)).setCell ⟨P, 17, none⟩ (.int .i64 0)) (fun _ _ => 0)
  case atStart => exact ⟨rfl, rfl⟩
  case round =>
    obtain ⟨rfl, rfl⟩ := hrel
    go_wp2_with fail
    go_end0
    exact ⟨rfl, hfin⟩

set_option maxRecDepth 100000 in
set_option maxHeartbeats 1000000 in
theorem startJoin_ok (P : Nat) (cs : Array Value) (w : World) (hP : Blk w P cs 48) (h23 : cs[23]? = some (.pointer none)) (h31 : cs[31]? = some (.bool false)) (h26 : cs[26]? = some (.slice none 0 0)) :
    Calls Yba.prog 22 #[.pointer (some ⟨P, 0, none⟩)] w fun en w' => en = .returned (.tuple #[]) ∧ ∃ q, w' = w.drewN q := by
  have c23 := (hP.cell 23).trans h23
  have c31 := (hP.cell 31).trans h31
  have c26 := (hP.cell 26).trans h26
  clear hP
  go_enter Yba.func22, Yba.ntmps22
  go_wp2_with fail
  try simp only [Exit.inBlock, Exit.then]
  refine bodyPost_ret (results_none rfl _ _ _) rfl ?_
  exact ⟨rfl, 0, rfl⟩
end Go.Proofs.Ybulkaryo
