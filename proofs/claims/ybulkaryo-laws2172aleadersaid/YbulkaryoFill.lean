/-
  zzs2172afill: the entries are kept.
-/
import Derived.Test.YbulkaryoArgs
namespace Go.Proofs.Ybulkaryo
open Go.RowKit

/-- Behind the filling: what is kept are the entries; the count is stored. -/
structure Filled (w : World) (B P : Nat) (cs : Array Value) (es : List Ent) (w' : World) : Prop where
  ex : ∃ cs' va vb ve made arrs ks, Kept w' B P cs' va vb ve made arrs ks ∧ ks.map (·.e) = es ∧ Frm (fun k => k = P ∨ B ≤ k) w w' ∧ (∀ j, j ≠ 6 → j ≠ 10 → j ≠ 12 → j ≠ 13 → cs'[j]? = cs[j]?) ∧ cs'[6]? = some (.int .u64 es.length) ∧ ∀ p ∈ arrs, p.2.length ≤ 1073741824

set_option maxRecDepth 100000 in
set_option maxHeartbeats 1000000 in
theorem fill_ok (v : Value) (b o B0 B P : Nat) (cs : Array Value) (es : List Ent) (w : World) (hv : ArgV v b o es.length) (hA : Args w B0 b o es) (hB0 : B0 ≤ P) (hK : Kept w B P cs (.slice none 0 0) (.slice none 0 0) (.slice none 0 0) false [] []) (hB : B ≤ w.heap.size) (h6 : cs[6]? = some (.int .u64 0))
    (hl : es.length ≤ 1024) (hfit : ∀ e ∈ es, e.fr < 256 ∧ e.seq < 18446744073709551616 ∧ e.name.size + e.body.length ≤ 1048576) :
    Calls Yba.prog 7 #[.pointer (some ⟨P, 0, none⟩), v] w fun en w' => en = .returned (.tuple #[]) ∧ Filled w B P cs es w' := by
  obtain ⟨p, c, rfl, hp⟩ := hv.form
  have hlow := hK.low
  have hl' : (es.length : Int) ≤ 1024 := by omega
  go_enter Yba.func7, Yba.ntmps7
  go_wp2_with fail
  go_loopw [7] (fun i wr => ∃ (k : Nat) (cs' : Array Value) (va vb ve : Value) (made : Bool) (arrs : List (Value × List UInt8)) (ks : List Kep), k ≤ es.length ∧ i = .int .i64 k ∧ Kept wr B P cs' va vb ve made arrs ks ∧ ks.map (·.e) = es.take k ∧ Frm (fun k => k = P ∨ B ≤ k) w wr ∧
    (∀ j, j ≠ 10 → j ≠ 12 → j ≠ 13 → cs'[j]? = cs[j]?) ∧ arrs.length ≤ k ∧ (∀ p ∈ arrs, p.2.length ≤ 1048576 * k)) (fun i _ => es.length - (intOf i).toNat)
  case atStart => exact ⟨0, cs, _, _, _, _, [], [], Nat.zero_le _, rfl, hK, rfl, Frm.refl _ _, fun _ _ _ _ => rfl, Nat.le_refl _, fun _ h => by cases h⟩
  case round =>
    obtain ⟨k, cs', va, vb, ve, made, arrs, ks, hk, rfl, hK1, hks, hf1, hcs, har, hab⟩ := hrel
    have hkl : ks.length = k := by
      have := congrArg List.length hks
      rw [List.length_map, List.length_take] at this
      omega
    by_cases hlt : k < es.length
    · obtain ⟨e, he⟩ : ∃ e, es[k]? = some e := ⟨es[k], by simp [hlt]⟩
      have hp' := hp (by omega)
      subst hp'
      have hBw : B0 ≤ w.heap.size := by omega
      have hA1 := hA.frm hf1 hBw (fun k hk h => by omega)
      obtain ⟨a1, a2, a3, pb, cb, a4, a5, a6⟩ := hA1.at_ k e he
      obtain ⟨s1, s2, s3⟩ := hfit e (List.mem_of_getElem? he)
      have s1' : (e.fr : Int) < 256 := by omega
      have u1 : IntKind.i64.wrap (e.fr : Int) = e.fr := by rw [IntKind.wrap_i64]; omega
      have hlt' : (k : Int) < es.length := by omega
      have hk0 : (0 : Int) ≤ k := by omega
      have hPw := hK1.pb.lt
      have hBr : B ≤ wr.heap.size := Nat.le_trans hB hf1.size
      have hbB : b < B0 := hA.low (fun h0 => by rw [h0] at he; cases he)
      have kp : ∀ w1, Frm (fun k => k = P ∨ B ≤ k) wr w1 → w1.cell? ⟨b, o + k * 4, none⟩ = some (.int .u8 e.fr) ∧ w1.cell? ⟨b, o + k * 4 + 1, none⟩ = some (.int .u64 e.seq) ∧ w1.cell? ⟨b, o + k * 4 + 2, none⟩ = some (.string e.name) ∧ w1.cell? ⟨b, o + k * 4 + 3, none⟩ = some (.slice pb e.body.length cb) := fun w1 hf => by
        have hc : ∀ j, w1.cell? ⟨b, j, none⟩ = wr.cell? ⟨b, j, none⟩ := fun j => hf.cell (a := ⟨b, j, none⟩) (by show b < wr.heap.size; omega) (by show ¬ (b = P ∨ B ≤ b); omega)
        exact ⟨(hc _).trans a1, (hc _).trans a2, (hc _).trans a3, (hc _).trans a4⟩
      go_upto_region 3 with fail
      go_region_held3 (fun w' => w'.cell? ⟨b, o + k * 4, none⟩ = some (.int .u8 e.fr) ∧ w'.cell? ⟨b, o + k * 4 + 1, none⟩ = some (.int .u64 e.seq) ∧ w'.cell? ⟨b, o + k * 4 + 2, none⟩ = some (.string e.name) ∧ w'.cell? ⟨b, o + k * 4 + 3, none⟩ = some (.slice pb e.body.length cb)) (go_keep) (first
        | (go_at_call 11; refine (add_ok e (.slice pb e.body.length cb) B P cs' va vb ve made arrs ks _ (by exact hK1.drew) (by exact hBr) s3 (by exact a5) (fun k hk => by have := a6 k hk; omega) (by omega) (by omega) (by rw [hkl]; exact hab)).mono ?_; rintro e w1 ⟨rfl, cs1, va1, vb1, ve1, arrs1, y, hK2, hye, f1, hcs1, har1, hab1⟩; have f1' := ((Frm.refl (fun k => k = P ∨ B ≤ k) wr).drew.trans f1 (fun _ _ h => h)); obtain ⟨k1, k2, k3, k4⟩ := kp w1 f1'))
      go_wp2_with fail
      refine ⟨⟨k + 1, cs1, va1, vb1, ve1, true, arrs1, ks ++ [y], hlt, by go_num, hK2, ?_, hf1.trans f1' (fun _ _ h => h), fun j h1 h2 h3 => (hcs1 j h1 h2 h3).trans (hcs j h1 h2 h3), by omega, by rw [← hkl]; exact hab1⟩, by simp [intOf]; omega⟩
      rw [List.map_append, hks, List.take_add_one, he, List.map_singleton, hye]
      rfl
    · have hlt' : ¬ (k : Int) < es.length := by omega
      have c6 := (hK1.pb.cell 6).trans ((hcs 6 (by decide) (by decide) (by decide)).trans h6)
      have f6 := hK1.pb.frozen 6
      have hke : k = es.length := by omega
      have h63 : IntKind.u64.wrap (es.length : Int) = es.length := u64_wrap (by omega)
      have hbig := hK1.big
      go_wp2_with fail
      go_end0
      refine ⟨rfl, ⟨_, va, vb, ve, made, arrs, ks, hK1.put 6 _ (by omega), ?_, hf1.setCell _ _ (fun _ => .inl rfl), ?_, ?_, fun p hp => ?_⟩⟩
      · rw [hks, List.take_of_length_le (by omega)]
      · intro j h1 h2 h3 h4
        rw [Array.getElem?_setIfInBounds_ne (Ne.symm h1)]
        exact hcs j h2 h3 h4
      · rw [Array.getElem?_setIfInBounds_self_of_lt (by omega)]
      · have := hab p hp
        omega
end Go.Proofs.Ybulkaryo
