/-
  THE PROOF OF 'Rows.LawS2172BScheduleToldSaid': the row out of the walk; then the told and tied card by the builder's one call. (After the guide's worked texts for told rows and told, tied cards.)
-/
import Derived.Test.YbulkaryoFmtRows
import Derived.Test.YbulkaryoFmtTie
import Derived.Test.YbulkaryoFmtCards
import Derived.Test.YbulkaryoFmtSched
import Derived.Test.YbulkaryoFmtOpen
import Derived.ProofKit
import Derived.OpenShut
import Derived.ChangeOld
import Derived.Below
import Derived.SizedLaws
import Derived.Stop.JoinedTold
import Derived.SevenTiedAt
namespace Go.Proofs.YbulkaryoFmt.lawS2172BSchedule
open Go.ChangeShapes Go.WideShapes Go.ChangeAt Go.RowKit
open Go.Proofs.YbulkaryoFmt
open Go.Extern.Stop Go.Stop Go.Extern

theorem own : ownKnob Ybaf.prog.godebug = none := by kernel_rfl
theorem laidOut : laidOutB Ybaf.pinned.checked.prog = true := by kernel_rfl
theorem laidOut' : laidOutB Ybaf.prog = true := by kernel_rfl
theorem stops : Ybaf.pinned.checked.prog.stops = ["fmt.errorf"] := by kernel_rfl
theorem stopKnobs : Ybaf.pinned.checked.prog.stopKnobs = [] := by kernel_rfl
theorem quiet (os : Os) : Stop.quiet Ybaf.pinned.checked.prog os := by
  intro k hk
  rw [stopKnobs] at hk
  cases hk

theorem laid_met (os : Os) (args : Array Value) : laidMet Ybaf.prog Rows.lawS2172BScheduleRow.laid (({ (World.holding Ybaf.prog os ⟨#[], #[], []⟩) with heap := (World.holding Ybaf.prog os ⟨#[], #[], []⟩).heap.modify 0 fun | .cells _ t frozen => .cells (Lib.deBruijn64tab.map fun n => Value.int .u8 (Int.ofNat n)).toArray t frozen | o => o } : World).forCall (fun _ _ => 0) ⟨#[], args, []⟩).memory :=
  laidMet_of_run' 8 (by kernel_rfl) (by kernel_rfl)

set_option maxRecDepth 100000 in
set_option maxHeartbeats 1600000 in
theorem lifted (os : Os) (started : os.Started) (H : Type) (enc : TypeId × Value → H) :
    ReturnsInTold none {} Ybaf.checked os 4 .any Input.okWide ((OpenSpec.ofChange Rows.lawS2172BScheduleSpec).preRow enc Ybaf.prog Ybaf.f4 [] false Rows.lawS2172BScheduleRow.laid) (fun F => ((OpenSpec.ofChange Rows.lawS2172BScheduleSpec).at F).post enc Ybaf.prog Ybaf.f4 false Rows.lawS2172BScheduleRow.fresh Rows.lawS2172BScheduleRow.handsOn Rows.lawS2172BScheduleRow.again) (aloneAtReturn Ybaf.prog) nothingAlways := by
  refine returnsInTold_of_row (C := Ybaf.checked) (s := OpenSpec.ofChange Rows.lawS2172BScheduleSpec) (by kernel_rfl) own started (by kernel_rfl) Ybaf.func4
    (OpenSpec.witness_stopped_at (enc := enc) (C := Ybaf.checked) false ({ (World.holding Ybaf.prog os ⟨#[], #[], []⟩) with heap := (World.holding Ybaf.prog os ⟨#[], #[], []⟩).heap.modify 0 fun | .cells _ t frozen => .cells (Lib.deBruijn64tab.map fun n => Value.int .u8 (Int.ofNat n)).toArray t frozen | o => o } : World) #[.int .u8 0, .slice none 0 0, .slice none 0 0, .slice none 0 0, .slice none 0 0] rfl (by kernel_rfl) (by kernel_rfl) (by kernel_rfl)
      (OpenSpec.preRow_of_B rfl 8 (by kernel_rfl) (by kernel_rfl) (laid_met os _))) ?_
  intro F W base0 args ds gs before _ hF hval0 hW _ _ hsz hL _
  have hval : ∀ (j : Nat) t v, Ybaf.f4.params[j]? = some t → args[j]? = some v → Value.okWide Ybaf.prog W .any base0 t v := hval0
  have hW' := hW
  obtain ⟨p, q, hA0, hV, rfl, hfz, hnd⟩ := hW
  have hA : DataW.TrodAll enc Ybaf.prog W 0 (fun _ => true) true Ybaf.f4.params.toList args.toList ds p := hA0
  have hsz' : ∀ {j : Nat} {t : TypeId} {d : DataW H}, Ybaf.f4.params.toList[j]? = some t → ds[j]? = some d → ∀ n ∈ d.weights Ybaf.prog t, n ≤ reachBytes := fun {j t d} ht hd n hn => by
    have hj : j < ds.length := (List.getElem?_eq_some_iff.1 hd).1
    have hj' : j < Ybaf.f4.params.toList.length := (List.getElem?_eq_some_iff.1 ht).1
    have := List.all_eq_true.1 hsz _ (DataW.weights_mem_each (j := j) (t := t) (d := d) (by exact (List.getElem?_append_left hj').trans ht) (by exact (List.getElem?_append_left hj).trans hd) n hn)
    simpa using this
  rw [Ybaf.params4] at hA hval hsz'
  obtain ⟨v0, vs0, d0, ds0, p0, q0, hargs, rfl, rfl, h0, r0⟩ := trodAll_cons hA
  obtain ⟨v1, vs1, d1, ds1, p1, q1, rfl, rfl, rfl, h1, r1⟩ := trodAll_cons r0
  obtain ⟨v2, vs2, d2, ds2, p2, q2, rfl, rfl, rfl, h2, r2⟩ := trodAll_cons r1
  obtain ⟨v3, vs3, d3, ds3, p3, q3, rfl, rfl, rfl, h3, r3⟩ := trodAll_cons r2
  obtain ⟨v4, vs4, d4, ds4, p4, q4, rfl, rfl, rfl, h4, r4⟩ := trodAll_cons r3
  obtain ⟨rfl, rfl, rfl⟩ := trodAll_nil r4
  obtain rfl : args = #[v0, v1, v2, v3, v4] := by cases args; simp_all
  obtain ⟨rfl, rfl⟩ := trodVars_none hV
  obtain ⟨a0, rfl, rfl, rfl, w0⟩ := open_int Ybaf.underlying5 (hval 0 5 v0 rfl rfl) h0
  obtain ⟨s1, n1, c1, rfl⟩ := okWide_slice Ybaf.underlying22 (hval 1 22 v1 rfl rfl)
  obtain ⟨s2, n2, c2, rfl⟩ := okWide_slice Ybaf.underlying22 (hval 2 22 v2 rfl rfl)
  obtain ⟨s3, n3, c3, rfl⟩ := okWide_slice Ybaf.underlying27 (hval 3 27 v3 rfl rfl)
  obtain ⟨s4, n4, c4, rfl⟩ := okWide_slice Ybaf.underlying22 (hval 4 22 v4 rfl rfl)
  have k1 := h1
  have k2 := h2
  have k3 := h3
  have k4 := h4
  have lt1 : ∀ x ∈ p1, x.block < W.heap.size := by obtain ⟨m, hm⟩ := k1; exact DataW.trod_lt m _ _ _ hm
  have lt2 : ∀ x ∈ p2, x.block < W.heap.size := by obtain ⟨m, hm⟩ := k2; exact DataW.trod_lt m _ _ _ hm
  have lt3 : ∀ x ∈ p3, x.block < W.heap.size := by obtain ⟨m, hm⟩ := k3; exact DataW.trod_lt m _ _ _ hm
  have lt4 : ∀ x ∈ p4, x.block < W.heap.size := by obtain ⟨m, hm⟩ := k4; exact DataW.trod_lt m _ _ _ hm
  obtain ⟨l1, x1, hb1, _⟩ := open_bytes (by simp [Value.cells]) h1 (hsz' (j := 1) rfl rfl)
  obtain ⟨l2, x2, hb2, hl2⟩ := open_bytes (by simp [Value.cells]) h2 (hsz' (j := 2) rfl rfl)
  obtain ⟨l3, x3, hb3, hl3⟩ := open_bools (by simp [Value.cells]) h3 (hsz' (j := 3) rfl rfl)
  obtain ⟨l4, x4, hb4, _⟩ := open_bytes (by simp [Value.cells]) h4 (hsz' (j := 4) rfl rfl)
  have hT : TabAt W := tabAt_of_laid (by kernel_rfl) hL
  have b0 := bounds_u8 w0
  obtain ⟨n0, rfl⟩ := Int.eq_ofNat_of_zero_le b0.1
  have hpos : 0 < W.heap.size := lt_of_cell (a := ⟨0, 0, none⟩) (hT 0 (by omega))
  clear hA0 hval0 hsz hsz'
  refine (sched_ok F.told n0 (by omega) _ _ _ _ l1 l2 l3 l4 x1 x2 x3 x4 W hF hb1 hb2 hb3 hb4 hl2 hl3 hpos hT).mono fun e W' ⟨he, hf⟩ => ?_
  subst he
  have bel : Below W.heap.size W W' := hf.below (Nat.le_refl _) (fun _ h => h)
  exact ⟨_, rfl, _, _, _, [], _, [], hW', trodAll_mk1 (shut_bool Ybaf.underlying4 _),
    trodAll_cons_mk (shut_int Ybaf.underlying5 w0) (trodAll_cons_mk (Below.trod laidOut' (by kernel_rfl) (of_decide_eq_true (by kernel_rfl)) k1 bel lt1) (trodAll_cons_mk (Below.trod laidOut' (by kernel_rfl) (of_decide_eq_true (by kernel_rfl)) k2 bel lt2) (trodAll_cons_mk (Below.trod laidOut' (by kernel_rfl) (of_decide_eq_true (by kernel_rfl)) k3 bel lt3) (trodAll_cons_mk (Below.trod laidOut' (by kernel_rfl) (of_decide_eq_true (by kernel_rfl)) k4 bel lt4) trodAll_mk0)))),
    rfl, bel.frame _, fun h => by cases h⟩

/-- THE STATEMENT: the told and tied card. -/
theorem proved : Rows.LawS2172BScheduleToldSaid :=
  Claim7.holds_of_told_tied_any_at .later 4 Ybaf.f4 "fmt.errorf" [] [] _ _ _ [.data] true (by kernel_rfl) rfl rfl rfl laidOut (by kernel_rfl) rfl ⟨rfl, rfl, rfl, rfl, rfl, rfl, rfl⟩ rfl rfl (by kernel_rfl) (by kernel_rfl) Ybaf.func4 (by kernel_rfl)
    (of_decide_eq_true (by kernel_rfl)) (by unfold Func.isWrapper; first | (rw [if_pos (by decide +kernel)]; kernel_rfl) | (rw [if_neg (by decide +kernel)]; exact ⟨rfl, rfl⟩)) stops.symm rfl stopKnobs.symm (by kernel_rfl)
    (by kernel_rfl) (by kernel_rfl) (by kernel_rfl) (by kernel_rfl) (by kernel_rfl) (by kernel_rfl) (by kernel_rfl) (by kernel_rfl) (by kernel_rfl) rfl (by kernel_rfl) rfl rfl
    rfl rfl
    rfl (by kernel_rfl) (by kernel_rfl) (by kernel_rfl) (by decide) (by kernel_rfl) lawS2172BSchedule_row_tie
    (OpenClaim.moreEntering_of (by kernel_rfl) (by kernel_rfl) (by kernel_rfl) (by kernel_rfl) (by kernel_rfl) (by kernel_rfl) (by kernel_rfl) (by kernel_rfl) (by kernel_rfl) (by kernel_rfl))
    ⟨_, WideRow.started_initial, quiet _⟩
    (fun os started _ H enc _ => lifted os started H enc)
end Go.Proofs.YbulkaryoFmt.lawS2172BSchedule
