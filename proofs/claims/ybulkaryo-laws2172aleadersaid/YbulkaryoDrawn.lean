/-
  A region that draws, by an invariant; what newTotal makes.
-/
import Derived.Test.YbulkaryoSame
namespace Go.Proofs.Ybulkaryo
open Go.RowKit

theorem wpOp_run {P : Program} {ops : Array Oper} {Q : Exit → Act → World → Prop} {i : Nat} {o : Oper} {v : Value} {a : Act} {w w' : World} {K : Act → World → Prop} (hi : ops[i]? = some o) (hg : o.guard = none) (hr : (execOp a.eval o).run P w = .ok (.value v) w') (h : K (a.put o.dst v) w') : wpOp P ops Q i K a w := by
  have hw : Region.wanted o (yielded ops a.tmps) = true := by simp [Region.wanted, hg]
  unfold wpOp
  simp only [hi, hw, if_true, Oper.wp, hr, Oper.upon]
  exact .inl h

/-- A region that draws, by an invariant over what has come up. -/
theorem wpAny_inv {P : Program} {md : Region.Mode} {ops : Array Oper} {Q : Exit → Act → World → Prop} (Inv : Array Bool → Act → World → Prop)
    (h0 : ∀ l a w, Inv l a w → Region.ready md ops l = [] → Q .normal a w)
    (h1 : ∀ l a w i, Inv l a w → i ∈ Region.ready md ops l → wpOp P ops Q i (fun a' w' => Inv (l.setIfInBounds i true) a' w') a w) :
    ∀ (fuel : Nat) (l : Array Bool) (a : Act) (w : World), Inv l a w → ((List.range ops.size).filter fun i => !l.getD i true).length ≤ fuel → wpAny P md ops Q fuel l a w := by
  intro fuel
  induction fuel with
  | zero =>
    intro l a w hI hc
    have hr : Region.ready md ops l = [] := by
      refine List.eq_nil_iff_forall_not_mem.2 fun i hi => ?_
      obtain ⟨h2, o, ho, _⟩ := mem_ready.1 hi
      have hlt : i < ops.size := (Array.getElem?_eq_some_iff.1 ho).1
      have : i ∈ (List.range ops.size).filter fun i => !l.getD i true := List.mem_filter.2 ⟨List.mem_range.2 hlt, by rw [h2]; rfl⟩
      rw [List.eq_nil_of_length_eq_zero (Nat.le_zero.1 hc)] at this
      cases this
    exact ⟨hr, h0 l a w hI hr⟩
  | succ fuel ih =>
    intro l a w hI hc
    refine ⟨fun hr => h0 l a w hI hr, fun i hi => wpOp_mono (fun a' w' h' => ih _ a' w' h' ?_) (h1 l a w i hI hi)⟩
    obtain ⟨h2, o, ho, _⟩ := mem_ready.1 hi
    have hlt : i < ops.size := (Array.getElem?_eq_some_iff.1 ho).1
    have hlt' : i < l.size := by
      rcases Nat.lt_or_ge i l.size with h | h
      · exact h
      · simp [Array.getElem?_eq_none h] at h2
    have hsub : ((List.range ops.size).filter fun j => !(l.setIfInBounds i true).getD j true).length < ((List.range ops.size).filter fun j => !l.getD j true).length := by
      have e1 : ((List.range ops.size).filter fun j => !(l.setIfInBounds i true).getD j true) = ((List.range ops.size).filter fun j => !l.getD j true).filter fun j => j != i := by
        rw [List.filter_filter]
        refine List.filter_congr fun j _ => ?_
        by_cases hj : j = i
        · subst hj
          simp [hlt']
        · rw [getD_set_ne true (Ne.symm hj)]
          simp [hj]
      rw [e1]
      refine List.length_filter_lt_length_iff_exists.2 ⟨i, List.mem_filter.2 ⟨List.mem_range.2 hlt, by rw [h2]; rfl⟩, by simp⟩
    omega

theorem info4 : (Yba.prog.info? 4).map (fun i => (i.zero, i.size, i.bytes)) = some (some (.bool false), 1, 1) := by kernel_rfl
theorem info33 : (Yba.prog.info? 33).map (fun i => (i.zero, i.size, i.bytes)) = some (some (.int .u64 0), 1, 8) := by kernel_rfl
theorem info50 : (Yba.prog.info? 50).map (fun i => (i.zero, i.size, i.bytes)) = some (some (.agg #[.bool false, .int .u64 0, .int .i64 0]), 3, 24) := by kernel_rfl

section
variable (n : Nat)
def obj32 : Obj := .cells (madeCells #[.bool false] n) 4
def obj34 : Obj := .cells (madeCells #[.int .u64 0] n) 33
def obj45 : Obj := .cells (madeCells #[.bool false, .int .u64 0, .int .i64 0] (n * 3)) 50
theorem make32 (hn : n ≤ 8) (w : World) : (Instr.makeSlice 32 (.int .i64 (n : Int)) (.int .i64 (n : Int))).run Yba.prog w = .ok (.slice (some ⟨w.heap.size, 0, none⟩) n n) (w.alloc (obj32 n)) := by
  obtain ⟨i, hi, hz, hs, hb⟩ := info_parts info4
  have hr := run_make (P := Yba.prog) w 32 4 i (.bool false) Yba.underlying32 hi hz .i64 .i64 n n (by omega) (by omega) (by rw [hb]; omega) (by omega)
  simp only [Int.toNat_natCast, hs, Nat.mul_one] at hr
  exact hr
theorem make34 (hn : n ≤ 8) (w : World) : (Instr.makeSlice 34 (.int .i64 (n : Int)) (.int .i64 (n : Int))).run Yba.prog w = .ok (.slice (some ⟨w.heap.size, 0, none⟩) n n) (w.alloc (obj34 n)) := by
  obtain ⟨i, hi, hz, hs, hb⟩ := info_parts info33
  have hr := run_make (P := Yba.prog) w 34 33 i (.int .u64 0) Yba.underlying34 hi hz .i64 .i64 n n (by omega) (by omega) (by rw [hb]; omega) (by omega)
  simp only [Int.toNat_natCast, hs, Nat.mul_one] at hr
  exact hr
theorem make45 (hn : n ≤ 8) (w : World) : (Instr.makeSlice 45 (.int .i64 (n : Int)) (.int .i64 (n : Int))).run Yba.prog w = .ok (.slice (some ⟨w.heap.size, 0, none⟩) n n) (w.alloc (obj45 n)) := by
  obtain ⟨i, hi, hz, hs, hb⟩ := info_parts info50
  have hr := run_make (P := Yba.prog) w 45 50 i _ Yba.underlying45 hi hz .i64 .i64 n n (by omega) (by omega) (by rw [hb]; omega) (by omega)
  simp only [Int.toNat_natCast, hs] at hr
  exact hr
end

/-- What operation i of newTotal yields; b: the block that it makes. -/
def valAt (me n E : Nat) (i b : Nat) : Value :=
  match i with
  | 0 => .iface 24 (.pointer (some ⟨E, 0, none⟩))
  | 1 => .int .i64 me
  | 3 | 5 | 7 | 9 | 13 | 15 | 17 => .slice (some ⟨b, 0, none⟩) n n
  | 11 => .bool (decide (2 < n))
  | 18 | 19 | 20 => .map (some b)
  | _ => .int .i64 n
/-- And the object that it makes. -/
def objAt (n : Nat) (i : Nat) : Option Obj :=
  match i with
  | 3 | 5 | 7 | 13 => some (obj32 n)
  | 9 | 15 => some (obj34 n)
  | 17 => some (obj45 n)
  | 18 | 19 | 20 => some (.map #[] 0)
  | _ => none
/-- What it waits for. -/
def depOf (i : Nat) : Option Nat :=
  match i with
  | 3 => some 2 | 5 => some 4 | 7 => some 6 | 9 => some 8 | 11 => some 10 | 13 => some 12 | 15 => some 14 | 17 => some 16
  | _ => none

def actOf (me n E : Nat) (V : Nat → Value) : Act :=
  { tmps := #[.int .i64 me, .int .i64 n, .iface 24 (.pointer (some ⟨E, 0, none⟩)), undef, undef, undef, .pointer none, V 7, V 8, V 9, V 10, V 11, V 12, V 13, V 14, V 15, V 16, V 17, V 18, V 19, V 20, V 21, V 22, V 23, V 24, V 25, V 26, V 27, V 28, V 29], defers := [] }
theorem actOf_put (me n E : Nat) (V : Nat → Value) (s : Nat) (v : Value) (h1 : 7 ≤ s) (h2 : s ≤ 29) : (actOf me n E V).put (some s) v = actOf me n E (fun t => if t = s then v else V t) := by
  obtain rfl | rfl | rfl | rfl | rfl | rfl | rfl | rfl | rfl | rfl | rfl | rfl | rfl | rfl | rfl | rfl | rfl | rfl | rfl | rfl | rfl | rfl | rfl : s = 7 ∨ s = 8 ∨ s = 9 ∨ s = 10 ∨ s = 11 ∨ s = 12 ∨ s = 13 ∨ s = 14 ∨ s = 15 ∨ s = 16 ∨ s = 17 ∨ s = 18 ∨ s = 19 ∨ s = 20 ∨ s = 21 ∨ s = 22 ∨ s = 23 ∨ s = 24 ∨ s = 25 ∨ s = 26 ∨ s = 27 ∨ s = 28 ∨ s = 29 := by omega
  all_goals rfl

/-- The blocks that have been made. -/
structure Mk (me n E : Nat) (w0 : World) (l : Array Bool) (f : Nat → Nat) (V : Nat → Value) (w : World) : Prop where
  frm : Frm (fun _ => False) w0 w
  val : ∀ i, i < 21 → l.getD i true = true → V (i + 7) = valAt me n E i (f i)
  obj : ∀ i o, i < 21 → l.getD i true = true → objAt n i = some o → w.heap[f i]? = some o ∧ w0.heap.size ≤ f i
  inj : ∀ i j, i < 21 → j < 21 → l.getD i true = true → l.getD j true = true → (objAt n i).isSome = true → (objAt n j).isSome = true → f i = f j → i = j
  dep : ∀ i d, i < 21 → l.getD i true = true → depOf i = some d → l.getD d true = true

theorem Mk.step {me n E : Nat} {w0 : World} {l : Array Bool} {f : Nat → Nat} {V : Nat → Value} {w w' : World} (h : Mk me n E w0 l f V w) (i b : Nat) (hi : i < 21) (hun : l.getD i true = false) (hsz : l.size = 24)
    (hd : ∀ d, depOf i = some d → l.getD d true = true) (hw : (objAt n i = none ∧ w' = w) ∨ ∃ o, objAt n i = some o ∧ w' = w.alloc o ∧ b = w.heap.size) :
    Mk me n E w0 (l.setIfInBounds i true) (fun j => if j = i then b else f j) (fun t => if t = i + 7 then valAt me n E i b else V t) w' := by
  have hold : ∀ j, j ≠ i → (l.setIfInBounds i true).getD j true = l.getD j true := fun j hj => getD_set_ne true (Ne.symm hj)
  have hheap : ∀ (k : Nat) (o : Obj), w.heap[k]? = some o → w'.heap[k]? = some o := fun k o hk => by
    rcases hw with ⟨_, rfl⟩ | ⟨o', _, rfl, _⟩
    · exact hk
    · exact (Below.heap_alloc w o' k (lt_of_heap hk)).trans hk
  refine ⟨?_, ?_, ?_, ?_, ?_⟩
  · rcases hw with ⟨_, rfl⟩ | ⟨o', _, rfl, _⟩
    · exact h.frm
    · exact h.frm.alloc _
  · intro j hj hl
    by_cases hji : j = i
    · subst hji
      simp
    · rw [hold j hji] at hl
      rw [if_neg hji, if_neg (by omega)]
      exact h.val j hj hl
  · intro j o hj hl ho
    by_cases hji : j = i
    · subst hji
      rw [if_pos rfl]
      rcases hw with ⟨hn, _⟩ | ⟨o', ho', rfl, rfl⟩
      · rw [hn] at ho
        cases ho
      · rw [ho'] at ho
        obtain rfl := Option.some.inj ho
        exact ⟨heap_new w _, h.frm.size⟩
    · rw [hold j hji] at hl
      rw [if_neg hji]
      obtain ⟨h2, h3⟩ := h.obj j o hj hl ho
      exact ⟨hheap _ _ h2, h3⟩
  · intro j k hj hk hl1 hl2 o1 o2 he
    by_cases hji : j = i <;> by_cases hki : k = i
    · omega
    · exfalso
      subst hji
      rw [if_pos rfl, if_neg hki] at he
      rw [hold k hki] at hl2
      obtain ⟨o, ho⟩ := Option.isSome_iff_exists.1 o2
      have hb := (h.obj k o hk hl2 ho).1
      rcases hw with ⟨hn, _⟩ | ⟨o', ho', rfl, rfl⟩
      · rw [hn] at o1
        cases o1
      · have := lt_of_heap hb
        omega
    · exfalso
      subst hki
      rw [if_neg hji, if_pos rfl] at he
      rw [hold j hji] at hl1
      obtain ⟨o, ho⟩ := Option.isSome_iff_exists.1 o1
      have hb := (h.obj j o hj hl1 ho).1
      rcases hw with ⟨hn, _⟩ | ⟨o', ho', rfl, rfl⟩
      · rw [hn] at o2
        cases o2
      · have := lt_of_heap hb
        omega
    · rw [if_neg hji, if_neg hki] at he
      rw [hold j hji] at hl1
      rw [hold k hki] at hl2
      exact h.inj j k hj hk hl1 hl2 o1 o2 he
  · intro j d hj hl hdj
    have hset : ∀ k, l.getD k true = true → (l.setIfInBounds i true).getD k true = true := fun k hk => by
      by_cases hki : k = i
      · subst hki
        simp [hsz, show k < 24 by omega]
      · rw [hold k hki]
        exact hk
    by_cases hji : j = i
    · subst hji
      exact hset d (hd d hdj)
    · rw [hold j hji] at hl
      exact hset d (h.dep j d hj hl hdj)
end Go.Proofs.Ybulkaryo
