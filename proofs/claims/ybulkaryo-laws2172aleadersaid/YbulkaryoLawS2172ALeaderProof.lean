/-
  THE PROOF OF 'Rows.LawS2172ALeaderSaid': the frame is the given shell's; the walk is lead_ok.
-/
import Derived.Test.YbulkaryoRows
import Derived.Test.YbulkaryoLead
import Derived.Test.YbulkaryoOpenLead
import Derived.WalkKit
import Derived.ProofKit
import Derived.OpenShut
import Derived.ShutString
import Derived.ChangeOld
import Derived.Below
import Derived.SizedLaws
namespace Go.Proofs.Ybulkaryo.lawS2172ALeader
open Go.ChangeShapes Go.WideShapes Go.ChangeAt Go.RowKit

theorem own : ownKnob Yba.prog.godebug = none := by kernel_rfl
theorem laidOut : laidOutB Yba.prog = true := by kernel_rfl

set_option maxRecDepth 100000 in
theorem lifted (os : Os) (started : os.Started) (H : Type) (enc : TypeId × Value → H) :
    ReturnsInHanded {} Yba.checked os 4 .any (Rows.lawS2172ALeaderSpec.pre6 enc Yba.prog Yba.f4 Rows.lawS2172ALeaderRow.domain false) (Rows.lawS2172ALeaderSpec.post enc Yba.prog Yba.f4 false true false false) := by
  refine returnsInHanded_of_change_sized (C := Yba.checked) own started (by kernel_rfl) Yba.func4
    (ChangeSpec.witness6 (enc := enc) (C := Yba.checked) false ⟨#[], #[.int .u8 0, .int .u8 0, .bool false, .bool false, .slice none 0 0, .slice none 0 0, .slice none 0 0], []⟩ 8 (by kernel_rfl) (by kernel_rfl) (by kernel_rfl) (by kernel_rfl)) ?_
  intro W base args ds gs before hval0 hW hcnd hsz _
  have hval : ∀ (j : Nat) t v, Yba.f4.params[j]? = some t → args[j]? = some v → Value.okWide Yba.prog W .any base t v := hval0
  have hW' := hW
  obtain ⟨p, q, hA0, hV, rfl, hfz, hnd⟩ := hW
  have hA : DataW.TrodAll enc Yba.prog W 0 (fun _ => true) true Yba.f4.params.toList args.toList ds p := hA0
  have hsz' : ∀ {j : Nat} {t : TypeId} {d : DataW H}, Yba.f4.params.toList[j]? = some t → ds[j]? = some d → ∀ n ∈ d.weights Yba.prog t, n ≤ reachBytes := fun {j t d} ht hd n hn => by
    have hj : j < ds.length := (List.getElem?_eq_some_iff.1 hd).1
    have hj' : j < Yba.f4.params.toList.length := (List.getElem?_eq_some_iff.1 ht).1
    have := List.all_eq_true.1 hsz _ (DataW.weights_mem_each (j := j) (t := t) (d := d) (by exact (List.getElem?_append_left hj').trans ht) (by exact (List.getElem?_append_left hj).trans hd) n hn)
    simpa using this
  rw [Yba.params4] at hA hval hsz'
  obtain ⟨v0, vs0, d0, ds0, p0, q0, hargs, rfl, rfl, h0, r0⟩ := trodAll_cons hA
  obtain ⟨v1, vs1, d1, ds1, p1, q1, rfl, rfl, rfl, h1, r1⟩ := trodAll_cons r0
  obtain ⟨v2, vs2, d2, ds2, p2, q2, rfl, rfl, rfl, h2, r2⟩ := trodAll_cons r1
  obtain ⟨v3, vs3, d3, ds3, p3, q3, rfl, rfl, rfl, h3, r3⟩ := trodAll_cons r2
  obtain ⟨v4, vs4, d4, ds4, p4, q4, rfl, rfl, rfl, h4, r4⟩ := trodAll_cons r3
  obtain ⟨v5, vs5, d5, ds5, p5, q5, rfl, rfl, rfl, h5, r5⟩ := trodAll_cons r4
  obtain ⟨v6, vs6, d6, ds6, p6, q6, rfl, rfl, rfl, h6, r6⟩ := trodAll_cons r5
  obtain ⟨rfl, rfl, rfl⟩ := trodAll_nil r6
  obtain rfl : args = #[v0, v1, v2, v3, v4, v5, v6] := by cases args; simp_all
  obtain ⟨rfl, rfl⟩ := trodVars_none hV
  obtain ⟨a0, rfl, rfl, rfl, w0⟩ := open_int Yba.underlying5 (hval 0 5 v0 rfl rfl) h0
  obtain ⟨a1, rfl, rfl, rfl, w1⟩ := open_int Yba.underlying5 (hval 1 5 v1 rfl rfl) h1
  obtain ⟨a2, rfl, rfl, rfl⟩ := open_bool Yba.underlying4 (hval 2 4 v2 rfl rfl) h2
  obtain ⟨a3, rfl, rfl, rfl⟩ := open_bool Yba.underlying4 (hval 3 4 v3 rfl rfl) h3
  obtain ⟨pa, la, ca, rfl⟩ := okWide_slice Yba.underlying32 (hval 4 32 v4 rfl rfl)
  obtain ⟨pb, lb, cb, rfl⟩ := okWide_slice Yba.underlying58 (hval 5 58 v5 rfl rfl)
  obtain ⟨pc, lc, cc, rfl⟩ := okWide_slice Yba.underlying22 (hval 6 22 v6 rfl rfl)
  have k4 := h4
  have lt4 : ∀ x ∈ p4, x.block < W.heap.size := by obtain ⟨m, hm⟩ := k4; exact DataW.trod_lt m _ _ _ hm
  have k5 := h5
  have lt5 : ∀ x ∈ p5, x.block < W.heap.size := by obtain ⟨m, hm⟩ := k5; exact DataW.trod_lt m _ _ _ hm
  have k6 := h6
  have lt6 : ∀ x ∈ p6, x.block < W.heap.size := by obtain ⟨m, hm⟩ := k6; exact DataW.trod_lt m _ _ _ hm
  obtain ⟨lg, ga, hGA, hlg⟩ := open_bools (by simp [Value.cells]) h4 (hsz' (j := 4) rfl rfl)
  obtain ⟨lr, ra, hRA, hlr, hra⟩ := open_reps (by simp [Value.cells]) h5 (hsz' (j := 5) rfl rfl)
  obtain ⟨ab, ao, es, hav, hAr, hl, hes, hfr⟩ := open_entries (by simp [Value.cells]) h6 (hsz' (j := 6) rfl rfl)
  have b0 := bounds_u8 w0
  have b1 := bounds_u8 w1
  obtain ⟨n0, rfl⟩ := Int.eq_ofNat_of_zero_le b0.1
  obtain ⟨n1, rfl⟩ := Int.eq_ofNat_of_zero_le b1.1
  clear hA0 hval0 hsz hsz'
  refine (lead_ok n0 n1 (by omega) (by omega) a2 a3 _ _ _ lg lr ga ra ab ao es W hGA hRA hra hlg hlr hav hAr hl hes hfr).mono fun e W' ⟨he, hf⟩ => ?_
  subst he
  have bel : Below W.heap.size W W' := hf.below (Nat.le_refl _) (fun _ h => h.elim)
  exact ⟨_, rfl, _, _, _, [], _, [], hW', trodAll_mk1 (shut_bool Yba.underlying4 _),
    trodAll_cons_mk (shut_int Yba.underlying5 w0) (trodAll_cons_mk (shut_int Yba.underlying5 w1) (trodAll_cons_mk (shut_bool Yba.underlying4 _) (trodAll_cons_mk (shut_bool Yba.underlying4 _) (trodAll_cons_mk (Below.trod laidOut (by kernel_rfl) (of_decide_eq_true (by kernel_rfl)) k4 bel lt4) (trodAll_cons_mk (Below.trod laidOut (by kernel_rfl) (of_decide_eq_true (by kernel_rfl)) k5 bel lt5) (trodAll_cons_mk (Below.trod laidOut (by kernel_rfl) (of_decide_eq_true (by kernel_rfl)) k6 bel lt6) trodAll_mk0)))))),
    rfl, bel.frame _, fun h => by cases h⟩

theorem over : Rows.lawS2172ALeaderRow.holds Yba.pinned (OpenSpec.ofChange Rows.lawS2172ALeaderSpec) :=
  OpenClaim.holds_of_wide 4 Yba.f4 rfl rfl rfl rfl rfl rfl rfl ⟨rfl, rfl, rfl, rfl, rfl⟩ rfl rfl rfl rfl rfl (by kernel_rfl) Yba.func4 (by kernel_rfl)
    (of_decide_eq_true (by kernel_rfl)) (by unfold Func.isWrapper; first | (rw [if_pos (by decide +kernel)]; kernel_rfl) | (rw [if_neg (by decide +kernel)]; exact ⟨rfl, rfl⟩))
    (fun os started H enc _ => lifted os started H enc)

/-- THE STATEMENT. -/
theorem proved : Rows.LawS2172ALeaderSaid :=
  over
end Go.Proofs.Ybulkaryo.lawS2172ALeader
