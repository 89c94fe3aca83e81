/-
  newTotal: ten things are made in whatever order.
-/
import Derived.Test.YbulkaryoDrawn
namespace Go.Proofs.Ybulkaryo
open Go.RowKit

def totCells (me n E : Nat) (f : Nat → Nat) : Array Value :=
  #[.iface 24 (.pointer (some ⟨E, 0, none⟩)), .int .i64 me, .int .i64 0, .slice (some ⟨f 3, 0, none⟩) n n, .slice (some ⟨f 5, 0, none⟩) n n, .slice (some ⟨f 7, 0, none⟩) n n, .int .u64 0, .slice (some ⟨f 9, 0, none⟩) n n, .bool (decide (2 < n)),
    .int .u64 0, .slice none 0 0, .int .i64 0, .slice none 0 0, .slice none 0 0, .int .i64 0,
    .int .u64 0, .slice none 0 0, .int .i64 0, .bool false, .bool false, .int .u64 0, .bool false, .map (some (f 18)), .pointer none, .int .i64 0, .int .u64 0, .slice none 0 0, .map (some (f 19)), .map (some (f 20)),
    .slice (some ⟨f 13, 0, none⟩) n n, .slice (some ⟨f 15, 0, none⟩) n n, .bool false, .int .i64 0, .slice (some ⟨f 17, 0, none⟩) n n, .bool false, .slice none 0 0]

/-- A total that newTotal has made at P. -/
structure Made (me n E : Nat) (w : World) (P : Nat) (f : Nat → Nat) (w' : World) : Prop where
  frm : Frm (fun _ => False) w w'
  blk : Blk w' P (totCells me n E f) 48
  low : w.heap.size ≤ P
  obj : ∀ i o, i < 21 → objAt n i = some o → w'.heap[f i]? = some o ∧ w.heap.size ≤ f i ∧ f i < P
  inj : ∀ i j, i < 21 → j < 21 → (objAt n i).isSome = true → (objAt n j).isSome = true → f i = f j → i = j

/-- What stands while the region runs. -/
def Run (me n E : Nat) (w0 : World) (l : Array Bool) (a : Act) (w : World) : Prop :=
  l.size = 24 ∧
  ((∃ f V, a = actOf me n E V ∧ Mk me n E w0 l f V w ∧ l.getD 21 true = false ∧ l.getD 22 true = false ∧ l.getD 23 true = false) ∨
   (∃ f V, a = actOf me n E V ∧ Mk me n E w0 l f V w ∧ V 28 = .agg (totCells me n E f) ∧ (∀ i, i < 22 → l.getD i true = true) ∧ l.getD 22 true = false ∧ l.getD 23 true = false) ∨
   (∃ f V P, a = actOf me n E V ∧ Made me n E w0 P f w ∧ V 29 = .pointer (some ⟨P, 0, none⟩) ∧ (∀ i, i < 23 → l.getD i true = true) ∧ l.getD 23 true = false) ∨
   (∃ f V P, a = (actOf me n E V).put (some 6) (.pointer (some ⟨P, 0, none⟩)) ∧ Made me n E w0 P f w ∧ ∀ i, i < 24 → l.getD i true = true))

/-- Where every operation waits for earlier ones alone, and none may come up, all have come up. -/
theorem ready_nil {md : Region.Mode} {ops : Array Oper} {l : Array Bool} (h : Region.ready md ops l = []) (hd : ((List.range ops.size).all fun i => ((ops[i]?).map fun o => o.after.all fun e => decide (e.on < i)).getD true) = true) (hsz : l.size = ops.size) : ∀ i, i < ops.size → l.getD i true = true := by
  intro i
  induction i using Nat.strongRecOn with
  | ind i ih =>
    intro hi
    cases hl : l.getD i true with
    | true => rfl
    | false =>
      exfalso
      have hm : i ∈ Region.ready md ops l := by
        refine mem_ready.2 ⟨hl, ops[i], by simp [hi], fun e he _ => ?_⟩
        have h1 := List.all_eq_true.1 hd i (List.mem_range.2 hi)
        rw [Array.getElem?_eq_getElem hi] at h1
        simp only [Option.map_some, Option.getD_some] at h1
        have h2 : e.on < i := by
          have := Array.all_eq_true_iff_forall_mem.1 h1 e he
          simpa using this
        have h3 := ih e.on h2 (by omega)
        have h4 : e.on < l.size := by omega
        simpa [h4] using h3
      rw [h] at hm
      cases hm

theorem run_put {me n E : Nat} {w0 : World} {l : Array Bool} {f : Nat → Nat} {V : Nat → Value} {w1 : World} (hsz : l.size = 24) (hMk : Mk me n E w0 l f V w1) (h21 : l.getD 21 true = false) (h22 : l.getD 22 true = false) (h23 : l.getD 23 true = false)
    (i b : Nat) (v : Value) (w2 : World) (hi : i < 21) (hun : l.getD i true = false) (hv : v = valAt me n E i b) (hd : ∀ d, depOf i = some d → l.getD d true = true) (hw : (objAt n i = none ∧ w2 = w1) ∨ ∃ o, objAt n i = some o ∧ w2 = w1.alloc o ∧ b = w1.heap.size) :
    Run me n E w0 (l.setIfInBounds i true) ((actOf me n E V).put (some (i + 7)) v) w2 := by
  subst hv
  refine ⟨by rw [Array.size_setIfInBounds]; exact hsz, .inl ⟨_, _, actOf_put me n E V (i + 7) _ (by omega) (by omega), hMk.step i b hi hun hsz hd hw, ?_, ?_, ?_⟩⟩
  · rw [getD_set_ne true (by omega)]
    exact h21
  · rw [getD_set_ne true (by omega)]
    exact h22
  · rw [getD_set_ne true (by omega)]
    exact h23

set_option maxRecDepth 100000 in
set_option maxHeartbeats 1000000 in
theorem newTotal_ok (me n E : Nat) (w : World) (hn2 : n ≤ 8) :
    Calls Yba.prog 6 #[.int .i64 me, .int .i64 n, .iface 24 (.pointer (some ⟨E, 0, none⟩))] w fun en w' => ∃ P f, en = .returned (.pointer (some ⟨P, 0, none⟩)) ∧ Made me n E w P f w' := by
  go_enter Yba.func6, Yba.ntmps6
  go_upto_region 1 with fail
  go_cut [6] (fun s6 wx => ∃ P f, s6 = .pointer (some ⟨P, 0, none⟩) ∧ Made me n E w P f wx)
  case first =>
    refine wp_region_any (by kernel_rfl) ?_
    refine wpAny_inv (Run me n E w) ?_ ?_ _ _ _ _ ?_ ?_
    · intro l a w1 hR hr
      obtain ⟨hsz, hR⟩ := hR
      have hall := ready_nil hr (by kernel_rfl) hsz
      have h23 := hall 23 (by decide)
      rcases hR with ⟨f, V, _, _, _, _, h⟩ | ⟨f, V, _, _, _, _, _, h⟩ | ⟨f, V, P, _, _, _, _, h⟩ | ⟨f, V, P, rfl, hM, _⟩
      · rw [h] at h23
        cases h23
      · rw [h] at h23
        cases h23
      · rw [h] at h23
        cases h23
      · simp only [actOf, Act.put, List.setIfInBounds_toArray, List.set_cons_zero, List.set_cons_succ]
        go_wp2_with fail
        go_meet
        exact ⟨P, f, rfl, hM⟩
    · intro l a w1 i hR hi
      obtain ⟨hun, o, ho, hedge⟩ := mem_ready.1 hi
      have hi24 : i < 24 := (Array.getElem?_eq_some_iff.1 ho).1
      obtain ⟨hsz, hR⟩ := hR
      have hdep : ∀ d, { on := d, ground := Ground.data } ∈ o.after → l.getD d true = true := fun d hd => by
        have h : l.getD d false = true := hedge _ hd rfl
        rcases Nat.lt_or_ge d l.size with h' | h'
        · simpa [h'] using h
        · simp [Array.getElem?_eq_none h'] at h
      rcases hR with ⟨f, V, rfl, hMk, h21, h22, h23⟩ | ⟨f, V, rfl, hMk, h28, hall, h22, h23⟩ | ⟨f, V, P, rfl, hM, h29, hall, h23⟩ | ⟨f, V, P, rfl, hM, hall⟩
      · obtain rfl | rfl | rfl | rfl | rfl | rfl | rfl | rfl | rfl | rfl | rfl | rfl | rfl | rfl | rfl | rfl | rfl | rfl | rfl | rfl | rfl | rfl | rfl | rfl : i = 0 ∨ i = 1 ∨ i = 2 ∨ i = 3 ∨ i = 4 ∨ i = 5 ∨ i = 6 ∨ i = 7 ∨ i = 8 ∨ i = 9 ∨ i = 10 ∨ i = 11 ∨ i = 12 ∨ i = 13 ∨ i = 14 ∨ i = 15 ∨ i = 16 ∨ i = 17 ∨ i = 18 ∨ i = 19 ∨ i = 20 ∨ i = 21 ∨ i = 22 ∨ i = 23 := by omega
        all_goals
          obtain rfl := Option.some.inj ho
        · exact wpOp_run (i := 0) rfl rfl (by rfl) (run_put hsz hMk h21 h22 h23 0 0 _ _ (by omega) hun rfl (fun d hd => by cases hd) (.inl ⟨rfl, rfl⟩))
        · exact wpOp_run (i := 1) rfl rfl (by rfl) (run_put hsz hMk h21 h22 h23 1 0 _ _ (by omega) hun rfl (fun d hd => by cases hd) (.inl ⟨rfl, rfl⟩))
        · exact wpOp_run (i := 2) rfl rfl (by rfl) (run_put hsz hMk h21 h22 h23 2 0 _ _ (by omega) hun rfl (fun d hd => by cases hd) (.inl ⟨rfl, rfl⟩))
        · exact wpOp_run (i := 3) rfl rfl (by have e : (actOf me n E V).eval (.tmp 9) = .int .i64 n := hMk.val 2 (by omega) (hdep 2 (by simp)); simp [execOp, e, make32 n hn2]; rfl) (run_put hsz hMk h21 h22 h23 3 w1.heap.size _ _ (by omega) hun rfl (fun d hd => by cases hd; exact hdep 2 (by simp)) (.inr ⟨_, rfl, rfl, rfl⟩))
        · exact wpOp_run (i := 4) rfl rfl (by rfl) (run_put hsz hMk h21 h22 h23 4 0 _ _ (by omega) hun rfl (fun d hd => by cases hd) (.inl ⟨rfl, rfl⟩))
        · exact wpOp_run (i := 5) rfl rfl (by have e : (actOf me n E V).eval (.tmp 11) = .int .i64 n := hMk.val 4 (by omega) (hdep 4 (by simp)); simp [execOp, e, make32 n hn2]; rfl) (run_put hsz hMk h21 h22 h23 5 w1.heap.size _ _ (by omega) hun rfl (fun d hd => by cases hd; exact hdep 4 (by simp)) (.inr ⟨_, rfl, rfl, rfl⟩))
        · exact wpOp_run (i := 6) rfl rfl (by rfl) (run_put hsz hMk h21 h22 h23 6 0 _ _ (by omega) hun rfl (fun d hd => by cases hd) (.inl ⟨rfl, rfl⟩))
        · exact wpOp_run (i := 7) rfl rfl (by have e : (actOf me n E V).eval (.tmp 13) = .int .i64 n := hMk.val 6 (by omega) (hdep 6 (by simp)); simp [execOp, e, make32 n hn2]; rfl) (run_put hsz hMk h21 h22 h23 7 w1.heap.size _ _ (by omega) hun rfl (fun d hd => by cases hd; exact hdep 6 (by simp)) (.inr ⟨_, rfl, rfl, rfl⟩))
        · exact wpOp_run (i := 8) rfl rfl (by rfl) (run_put hsz hMk h21 h22 h23 8 0 _ _ (by omega) hun rfl (fun d hd => by cases hd) (.inl ⟨rfl, rfl⟩))
        · exact wpOp_run (i := 9) rfl rfl (by have e : (actOf me n E V).eval (.tmp 15) = .int .i64 n := hMk.val 8 (by omega) (hdep 8 (by simp)); simp [execOp, e, make34 n hn2]; rfl) (run_put hsz hMk h21 h22 h23 9 w1.heap.size _ _ (by omega) hun rfl (fun d hd => by cases hd; exact hdep 8 (by simp)) (.inr ⟨_, rfl, rfl, rfl⟩))
        · exact wpOp_run (i := 10) rfl rfl (by rfl) (run_put hsz hMk h21 h22 h23 10 0 _ _ (by omega) hun rfl (fun d hd => by cases hd) (.inl ⟨rfl, rfl⟩))
        · exact wpOp_run (i := 11) (v := .bool (decide (2 < n))) rfl rfl (by
            have e : V 17 = .int .i64 n := hMk.val 10 (by omega) (hdep 10 (by simp))
            have e2 : decide ((2 : Int) < (n : Int)) = decide (2 < n) := decide_eq_decide.2 (by omega)
            have e3 : (actOf me n E V).tmps[17]?.getD undef = .int .i64 n := e
            simp [execOp, Act.eval, e3, go_sem, e2]) (run_put hsz hMk h21 h22 h23 11 0 _ _ (by omega) hun rfl (fun d hd => by cases hd; exact hdep 10 (by simp)) (.inl ⟨rfl, rfl⟩))
        · exact wpOp_run (i := 12) rfl rfl (by rfl) (run_put hsz hMk h21 h22 h23 12 0 _ _ (by omega) hun rfl (fun d hd => by cases hd) (.inl ⟨rfl, rfl⟩))
        · exact wpOp_run (i := 13) rfl rfl (by have e : (actOf me n E V).eval (.tmp 19) = .int .i64 n := hMk.val 12 (by omega) (hdep 12 (by simp)); simp [execOp, e, make32 n hn2]; rfl) (run_put hsz hMk h21 h22 h23 13 w1.heap.size _ _ (by omega) hun rfl (fun d hd => by cases hd; exact hdep 12 (by simp)) (.inr ⟨_, rfl, rfl, rfl⟩))
        · exact wpOp_run (i := 14) rfl rfl (by rfl) (run_put hsz hMk h21 h22 h23 14 0 _ _ (by omega) hun rfl (fun d hd => by cases hd) (.inl ⟨rfl, rfl⟩))
        · exact wpOp_run (i := 15) rfl rfl (by have e : (actOf me n E V).eval (.tmp 21) = .int .i64 n := hMk.val 14 (by omega) (hdep 14 (by simp)); simp [execOp, e, make34 n hn2]; rfl) (run_put hsz hMk h21 h22 h23 15 w1.heap.size _ _ (by omega) hun rfl (fun d hd => by cases hd; exact hdep 14 (by simp)) (.inr ⟨_, rfl, rfl, rfl⟩))
        · exact wpOp_run (i := 16) rfl rfl (by rfl) (run_put hsz hMk h21 h22 h23 16 0 _ _ (by omega) hun rfl (fun d hd => by cases hd) (.inl ⟨rfl, rfl⟩))
        · exact wpOp_run (i := 17) rfl rfl (by have e : (actOf me n E V).eval (.tmp 23) = .int .i64 n := hMk.val 16 (by omega) (hdep 16 (by simp)); simp [execOp, e, make45 n hn2]; rfl) (run_put hsz hMk h21 h22 h23 17 w1.heap.size _ _ (by omega) hun rfl (fun d hd => by cases hd; exact hdep 16 (by simp)) (.inr ⟨_, rfl, rfl, rfl⟩))
        · exact wpOp_run (i := 18) rfl rfl (by simp [execOp, Instr.makeMap]; rfl) (run_put hsz hMk h21 h22 h23 18 w1.heap.size _ _ (by omega) hun rfl (fun d hd => by cases hd) (.inr ⟨_, rfl, rfl, rfl⟩))
        · exact wpOp_run (i := 19) rfl rfl (by simp [execOp, Instr.makeMap]; rfl) (run_put hsz hMk h21 h22 h23 19 w1.heap.size _ _ (by omega) hun rfl (fun d hd => by cases hd) (.inr ⟨_, rfl, rfl, rfl⟩))
        · exact wpOp_run (i := 20) rfl rfl (by simp [execOp, Instr.makeMap]; rfl) (run_put hsz hMk h21 h22 h23 20 w1.heap.size _ _ (by omega) hun rfl (fun d hd => by cases hd) (.inr ⟨_, rfl, rfl, rfl⟩))
        · have h21' := hun
          have e0 : V 7 = .iface 24 (.pointer (some ⟨E, 0, none⟩)) := hMk.val 0 (by omega) (hdep 0 (by simp))
          have e1 : V 8 = .int .i64 me := hMk.val 1 (by omega) (hdep 1 (by simp))
          have e3 : V 10 = .slice (some ⟨f 3, 0, none⟩) n n := hMk.val 3 (by omega) (hdep 3 (by simp))
          have e5 : V 12 = .slice (some ⟨f 5, 0, none⟩) n n := hMk.val 5 (by omega) (hdep 5 (by simp))
          have e7 : V 14 = .slice (some ⟨f 7, 0, none⟩) n n := hMk.val 7 (by omega) (hdep 7 (by simp))
          have e9 : V 16 = .slice (some ⟨f 9, 0, none⟩) n n := hMk.val 9 (by omega) (hdep 9 (by simp))
          have e11 : V 18 = .bool (decide (2 < n)) := hMk.val 11 (by omega) (hdep 11 (by simp))
          have e13 : V 20 = .slice (some ⟨f 13, 0, none⟩) n n := hMk.val 13 (by omega) (hdep 13 (by simp))
          have e15 : V 22 = .slice (some ⟨f 15, 0, none⟩) n n := hMk.val 15 (by omega) (hdep 15 (by simp))
          have e17 : V 24 = .slice (some ⟨f 17, 0, none⟩) n n := hMk.val 17 (by omega) (hdep 17 (by simp))
          have e18 : V 25 = .map (some (f 18)) := hMk.val 18 (by omega) (hdep 18 (by simp))
          have e19 : V 26 = .map (some (f 19)) := hMk.val 19 (by omega) (hdep 19 (by simp))
          have e20 : V 27 = .map (some (f 20)) := hMk.val 20 (by omega) (hdep 20 (by simp))
          have hl : ∀ i, i < 21 → l.getD i true = true := fun i hi => by
            have h0 := hdep 0 (by simp)
            have h1 := hdep 1 (by simp)
            have h3 := hdep 3 (by simp)
            have h5 := hdep 5 (by simp)
            have h7 := hdep 7 (by simp)
            have h9 := hdep 9 (by simp)
            have h11 := hdep 11 (by simp)
            have h13 := hdep 13 (by simp)
            have h15 := hdep 15 (by simp)
            have h17 := hdep 17 (by simp)
            have h18 := hdep 18 (by simp)
            have h19 := hdep 19 (by simp)
            have h20 := hdep 20 (by simp)
            have h2 := hMk.dep 3 2 (by omega) h3 rfl
            have h4 := hMk.dep 5 4 (by omega) h5 rfl
            have h6 := hMk.dep 7 6 (by omega) h7 rfl
            have h8 := hMk.dep 9 8 (by omega) h9 rfl
            have h10 := hMk.dep 11 10 (by omega) h11 rfl
            have h12 := hMk.dep 13 12 (by omega) h13 rfl
            have h14 := hMk.dep 15 14 (by omega) h15 rfl
            have h16 := hMk.dep 17 16 (by omega) h17 rfl
            obtain rfl | rfl | rfl | rfl | rfl | rfl | rfl | rfl | rfl | rfl | rfl | rfl | rfl | rfl | rfl | rfl | rfl | rfl | rfl | rfl | rfl : i = 0 ∨ i = 1 ∨ i = 2 ∨ i = 3 ∨ i = 4 ∨ i = 5 ∨ i = 6 ∨ i = 7 ∨ i = 8 ∨ i = 9 ∨ i = 10 ∨ i = 11 ∨ i = 12 ∨ i = 13 ∨ i = 14 ∨ i = 15 ∨ i = 16 ∨ i = 17 ∨ i = 18 ∨ i = 19 ∨ i = 20 := by omega
            all_goals assumption
          have hset : ∀ i, i ≠ 21 → (l.setIfInBounds 21 true).getD i true = l.getD i true := fun i hi => getD_set_ne true (Ne.symm hi)
          refine wpOp_run (i := 21) (v := .agg (totCells me n E f)) (w' := w1) rfl rfl (by rw [actOf, e0, e1, e3, e5, e7, e9, e11, e13, e15, e17, e18, e19, e20]; kernel_rfl) ⟨by rw [Array.size_setIfInBounds]; exact hsz, .inr (.inl ⟨f, fun t => if t = 28 then .agg (totCells me n E f) else V t, actOf_put me n E V 28 _ (by omega) (by omega), ?_, rfl, ?_, ?_, ?_⟩)⟩
          · refine ⟨hMk.frm, fun i hi h => ?_, fun i o hi h ho => ?_, fun i j hi hj h1 h2 => ?_, fun i d hi h hd => ?_⟩
            · rw [if_neg (by omega)]
              exact hMk.val i hi (hl i hi)
            · exact hMk.obj i o hi (hl i hi) ho
            · exact hMk.inj i j hi hj (hl i hi) (hl j hj)
            · have := hMk.dep i d hi (hl i hi) hd
              by_cases hd' : d = 21
              · subst hd'
                simp [hsz]
              · rw [hset d hd']
                exact this
          · intro i hi
            by_cases h : i = 21
            · subst h
              simp [hsz]
            · rw [hset i h]
              exact hl i (by omega)
          · rw [hset 22 (by omega)]
            exact h22
          · rw [hset 23 (by omega)]
            exact h23
        · have h := hdep 21 (by simp)
          rw [h21] at h
          cases h
        · have h := hdep 22 (by simp)
          rw [h22] at h
          cases h
      · have hi' : i = 22 ∨ i = 23 := by
          rcases Nat.lt_or_ge i 22 with h | h
          · rw [hall i h] at hun
            cases hun
          · omega
        rcases hi' with rfl | rfl
        all_goals obtain rfl := Option.some.inj ho
        · have hset : ∀ i, i ≠ 22 → (l.setIfInBounds 22 true).getD i true = l.getD i true := fun i hi => getD_set_ne true (Ne.symm hi)
          refine wpOp_run (i := 22) (v := .pointer (some ⟨w1.heap.size, 0, none⟩)) (w' := w1.alloc (.cells (totCells me n E f) 48)) rfl rfl (by rw [actOf, h28]; rfl) ⟨by rw [Array.size_setIfInBounds]; exact hsz, .inr (.inr (.inl ⟨f, fun t => if t = 29 then .pointer (some ⟨w1.heap.size, 0, none⟩) else V t, w1.heap.size, actOf_put me n E V 29 _ (by omega) (by omega), ?_, rfl, ?_, ?_⟩))⟩
          · refine ⟨hMk.frm.alloc _, Blk.new w1 _ 48, hMk.frm.size, fun i o hi ho => ?_, fun i j hi hj => ?_⟩
            · obtain ⟨h1, h2⟩ := hMk.obj i o hi (hall i (by omega)) ho
              exact ⟨(Below.heap_alloc w1 _ _ (lt_of_heap h1)).trans h1, h2, lt_of_heap h1⟩
            · exact hMk.inj i j hi hj (hall i (by omega)) (hall j (by omega))
          · intro i hi
            by_cases h : i = 22
            · subst h
              simp [hsz]
            · rw [hset i h]
              exact hall i (by omega)
          · rw [hset 23 (by omega)]
            exact h23
        · have h := hdep 22 (by simp)
          rw [h22] at h
          cases h
      · have hi' : i = 23 := by
          rcases Nat.lt_or_ge i 23 with h | h
          · rw [hall i h] at hun
            cases hun
          · omega
        subst hi'
        obtain rfl := Option.some.inj ho
        refine wpOp_run (i := 23) (v := .pointer (some ⟨P, 0, none⟩)) (w' := w1) rfl rfl (by rw [actOf, h29]; rfl) ⟨by rw [Array.size_setIfInBounds]; exact hsz, .inr (.inr (.inr ⟨f, V, P, rfl, hM, fun i hi => ?_⟩))⟩
        by_cases h : i = 23
        · subst h
          simp [hsz]
        · rw [getD_set_ne true (Ne.symm h)]
          exact hall i (by omega)
      · rw [hall i hi24] at hun
        cases hun
    · refine ⟨by simp, .inl ⟨fun _ => 0, fun _ => undef, rfl, ?_, rfl, rfl, rfl⟩⟩
      have hF : ∀ i, i < 24 → (Array.replicate 24 false).getD i true = false := fun i hi => by simp [hi]
      refine ⟨(Frm.refl _ w).drew, fun i hi h => ?_, fun i o hi h => ?_, fun i j hi _ h => ?_, fun i d hi h => ?_⟩
      all_goals
        have := hF i (by omega)
        have h' : (Array.replicate 24 false).getD i true = true := h
        rw [this] at h'
        cases h'
    · exact Nat.le_trans (List.length_filter_le _ _) (by simp)
  case rest =>
    obtain ⟨P, f, rfl, hM⟩ := hcut
    go_wp2_with fail
    go_ret
    exact ⟨P, f, rfl, hM⟩
end Go.Proofs.Ybulkaryo
