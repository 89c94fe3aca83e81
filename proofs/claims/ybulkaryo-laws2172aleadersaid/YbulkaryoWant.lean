/-
  zzs2172aforwards: what is to be sent.
-/
import Derived.Test.YbulkaryoFill
namespace Go.Proofs.Ybulkaryo
open Go.RowKit

/-- What zzs2172aforwards yields. -/
structure Fwd (w : World) (B : Nat) (L : List Snt) (says : List Said) (v : Value) (w' : World) : Prop where
  ex : ∃ M, Frames w' B v (L ++ M) ∧ M.map Snt.said = says ∧ Frm (fun k => B ≤ k) w w'

set_option maxRecDepth 100000 in
set_option maxHeartbeats 1000000 in
theorem forwards_ok (tg k0 : Nat) (v : Value) (b o B0 B : Nat) (es : List Ent) (v0 : Value) (L : List Snt) (w : World) (hv : ArgV v b o es.length) (hA : Args w B0 b o es) (hB0 : B0 ≤ B) (hB : B ≤ w.heap.size) (hF0 : Frames w B v0 L) (hL : L.length ≤ 1000000) (hk0 : k0 < 256)
    (hl : es.length ≤ 1024) (hfit : ∀ e ∈ es, e.fr < 256 ∧ e.seq < 18446744073709551616 ∧ e.name.size + e.body.length ≤ 1048576) :
    Calls Yba.prog 9 #[v0, .int .i64 tg, .int .u64 k0, v] w fun en w' => ∃ sv, en = .returned sv ∧ Fwd w B L (framesOf tg k0 (es.drop k0)) sv w' := by
  obtain ⟨p, c, rfl, hp⟩ := hv.form
  obtain ⟨j0, hj, hj0, hj1, hj2⟩ := info_parts info64
  have hl' : (es.length : Int) ≤ 1024 := by omega
  have hle : IntKind.u64.wrap (es.length : Int) = es.length := u64_wrap (by omega)
  have hk1 : IntKind.u64.wrap ((k0 : Int) + 1) = (k0 : Int) + 1 := by rw [IntKind.wrap_u64]; omega
  go_enter Yba.func9, Yba.ntmps9
  go_wp2_with fail
  go_loopw [0, 9] (fun vs vn wr => ∃ (i : Nat) (M : List Snt), vn = .int .u64 ((i : Int) + 1) ∧ k0 ≤ i ∧ (i ≤ es.length ∨ i = k0) ∧ Frames wr B vs (L ++ M) ∧ M.map Snt.said = framesOf tg k0 ((es.drop k0).take (i - k0)) ∧ M.length = i - k0 ∧ Frm (fun k => B ≤ k) w wr) (fun _ vn _ => es.length + 300 - (intOf vn).toNat)
  case atStart => exact ⟨k0, [], rfl, Nat.le_refl _, .inr rfl, by simpa using hF0, by simp [framesOf], by simp, Frm.refl _ _⟩
  case round =>
    obtain ⟨i, M, rfl, hki, hie, hF, hM, hMl, hf⟩ := hrel
    by_cases hlt : i < es.length
    · obtain ⟨e, he⟩ : ∃ e, es[i]? = some e := ⟨es[i], by simp [hlt]⟩
      have hp' := hp (by omega)
      subst hp'
      have hA1 := hA.frm hf (Nat.le_trans hB0 hB) (fun k hk h => by omega)
      obtain ⟨a1, a2, a3, pb, cb, a4, a5, a6⟩ := hA1.at_ i e he
      obtain ⟨s1, s2, s3⟩ := hfit e (List.mem_of_getElem? he)
      have hlt' : (i : Int) + 1 ≤ es.length := by omega
      have hlt2 : (i : Int) < es.length := by omega
      have hi0 : (0 : Int) ≤ i := by omega
      have hrow := hF.row
      have hLM : (L ++ M).length = L.length + (i - k0) := by rw [List.length_append, hMl]
      rw [hLM] at hrow
      obtain ⟨ps, cs, rfl, _, _, _⟩ := owns_form hrow
      go_wp2_with (first
        | (go_at_call 14; refine (enc_ok e.fr e.seq e.name (.slice pb e.body.length cb) e.body _ s1 s2 (by omega) (by omega) a5).mono ?_; rintro x w1 ⟨v1, rfl, own1, f1⟩; obtain ⟨p1, c1, rfl, _, _, _⟩ := owns_form own1)
        | (at_builtin; refine wpList_append_src _ rfl _ _ 25 25 rfl B 64 j0 _ 4 48 Yba.underlying25 hj hj0 hj1 hj2 rfl _ _ _ rfl ((f1.owns hrow (fun _ _ => id)).alloc _) _ rfl 1 [.int .i64 tg, .int .u8 12, .int .u64 ((i : Int) + 1), .slice p1 (encOf e.fr e.seq e.name.data.toList e.body).length c1] (src_four (t := 64) Yba.underlying25 (Blk.new _ _ 64) (by intro u hu; simp at hu; rcases hu with rfl | rfl | rfl | rfl <;> rfl)) (by omega) (by omega) (by have := hf.size; have := f1.size; simp; omega) ?_; intro v2 w2 own2 gw2 hat2))
      have hrow2 : w2.ownsRow B 64 4 v2 (L ++ M ++ [(⟨tg, i + 1, .slice p1 (encOf e.fr e.seq e.name.data.toList e.body).length c1, encOf e.fr e.seq e.name.data.toList e.body, 12⟩ : Snt)]).length ((L ++ M ++ [(⟨tg, i + 1, .slice p1 (encOf e.fr e.seq e.name.data.toList e.body).length c1, encOf e.fr e.seq e.name.data.toList e.body, 12⟩ : Snt)]).flatMap Snt.cells) := by
        rw [List.length_append, List.flatMap_append, hLM]
        exact own2
      have hwr := hf.size
      have hw1 := f1.size
      have hfg := (((Frm.refl (fun k => B ≤ k) w1).alloc (Obj.cells #[.int .i64 tg, .int .u8 12, .int .u64 ((i : Int) + 1), .slice p1 (encOf e.fr e.seq e.name.data.toList e.body).length c1] 64))).trans (Frm.grown gw2) (fun j _ h => (owns_lt hrow j h).1)
      have hap : ∀ {x : Value} {n : Nat} {xs : List Value}, w1.ownsRow B 5 1 x n xs → w2.ownsRow B 5 1 x n xs := fun ho =>
        (Frm.grown gw2).owns (ho.alloc _) (fun k hk h => owns_apart ho (f1.owns hrow (fun _ _ => id)) (by decide) k hk h)
      have hF2 : Frames w2 B v2 (L ++ (M ++ [(⟨tg, i + 1, .slice p1 (encOf e.fr e.seq e.name.data.toList e.body).length c1, encOf e.fr e.seq e.name.data.toList e.body, 12⟩ : Snt)])) := by
        rw [← List.append_assoc]
        refine ⟨hrow2, fun x hx => ?_⟩
        rcases List.mem_append.1 hx with hx | hx
        · exact hap (f1.owns (hF.bytes x hx) (fun _ _ => id))
        · obtain rfl : x = ⟨tg, i + 1, _, _, 12⟩ := by simpa using hx
          exact hap (owns_base own1 (Nat.le_trans hB hwr))
      have hM2 : (M ++ [(⟨tg, i + 1, .slice p1 (encOf e.fr e.seq e.name.data.toList e.body).length c1, encOf e.fr e.seq e.name.data.toList e.body, 12⟩ : Snt)]).map Snt.said = framesOf tg k0 ((es.drop k0).take (i + 1 - k0)) := by
        have hg : (es.drop k0)[i - k0]? = some e := by
          rw [List.getElem?_drop, show k0 + (i - k0) = i from by omega, he]
        rw [show i + 1 - k0 = (i - k0) + 1 from by omega, List.take_add_one, hg, Option.toList_some, framesOf_snoc, List.map_append, hM, List.length_take, List.length_drop, Nat.min_eq_left (by omega), show k0 + (i - k0) = i from by omega]
        rfl
      refine ⟨⟨i + 1, M ++ [(⟨tg, i + 1, .slice p1 (encOf e.fr e.seq e.name.data.toList e.body).length c1, encOf e.fr e.seq e.name.data.toList e.body, 12⟩ : Snt)], by go_num, by omega, by omega, hF2, hM2, by rw [List.length_append, List.length_singleton]; omega, ?_⟩, ?_⟩
      · exact ((hf.trans f1 (fun _ _ h => h.elim)).trans hfg (fun j hj h => h))
      · simp [intOf]
        omega
    · have hlt' : ¬ (i : Int) + 1 ≤ es.length := by omega
      go_wp2_with fail
      go_ret
      refine ⟨_, rfl, ⟨M, hF, ?_, hf⟩⟩
      rw [hM, List.take_of_length_le]
      rw [List.length_drop]
      omega
end Go.Proofs.Ybulkaryo
