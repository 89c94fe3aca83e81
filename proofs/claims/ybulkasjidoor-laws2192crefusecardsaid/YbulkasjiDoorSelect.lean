/-
  A WALK THAT COMES TO A select IN ONE GOROUTINE. The kit's Code.wp speaks of every kind of frame; a communication is carried out in a frame that is not an early one. HERE: WpAt: the same promise for ONE given frame; how it is composed; its rule for a region that opens with a select of one receive and a default, the channel closed and empty.
-/
import Derived.Test.YbulkasjiDoorRefuse
import Derived.Conc.LoneSelect
namespace Go.Proofs.YbulkasjiDoor
open Go.RowKit

/-- From the frame b, at the code c: the run comes to an exit of which Q holds, whatever stands behind. -/
def WpAt (b : Frame) (P : Program) (c : Code) (Q : Exit → Act → World → Prop) (a : Act) (w : World) : Prop :=
  ∀ (k : List Item) (cs : List Frame), ∃ e a' w', Q e a' w' ∧ Arrives P (lone (b.at a (.code c :: k)) cs w) b k cs e a' w'

section
variable {b : Frame} {P : Program} {Q : Exit → Act → World → Prop} {a : Act} {w : World}

theorem WpAt.of {c : Code} (h : c.wp P Q a w) : WpAt b P c Q a w := fun k cs => h b k cs

/-- An exit that is not the plain end passes by what waits in the list, if that is no block. -/
theorem arrives_past {m : Machine} {x : Item} {k : List Item} {cs : List Frame} {e : Exit} (hx : x.plain = true) (he : e ≠ .normal) (h : Arrives P m b (x :: k) cs e a w) : Arrives P m b k cs e a w :=
  Arrives.pass hx (fun _ _ => .inl he) h

theorem WpAt.seq {x y : Code} (h : WpAt b P x (Exit.then (WpAt b P y Q) Q) a w) : WpAt b P (.seq x y) Q a w := by
  intro k cs
  obtain ⟨e, a₁, w₁, hq, hr⟩ := h (.code y :: k) cs
  by_cases he : e = .normal
  · subst he
    obtain ⟨e₂, a₂, w₂, hq₂, hr₂⟩ := (show WpAt b P y Q a₁ w₁ from hq) k cs
    exact ⟨e₂, a₂, w₂, hq₂, .of_steps ((Steps.one step_seq).trans hr) hr₂⟩
  · refine ⟨e, a₁, w₁, ?_, .of_steps (.one step_seq) (arrives_past rfl he hr)⟩
    cases e <;> first | exact absurd rfl he | exact hq

/-- The first part by the kit's own walk. -/
theorem WpAt.seqWp {x y : Code} (h : x.wp P (Exit.then (WpAt b P y Q) Q) a w) : WpAt b P (.seq x y) Q a w := .seq (.of h)

theorem WpAt.cond {o : Operand} {x y : Code} {t : Bool} (ho : a.eval o = .bool t) (h : WpAt b P (if t then x else y) Q a w) : WpAt b P (.cond o x y) Q a w := by
  intro k cs
  obtain ⟨e, a₁, w₁, hq, hr⟩ := h k cs
  exact ⟨e, a₁, w₁, hq, .of_steps (.one (step_cond ho)) hr⟩

theorem WpAt.block {id : Nat} {c : Code} (h : WpAt b P c (Exit.inBlock id Q) a w) : WpAt b P (.block id c) Q a w := by
  intro k cs
  obtain ⟨e, a₁, w₁, hq, hr⟩ := h (.inBlock id :: k) cs
  cases e with
  | normal => exact ⟨.normal, a₁, w₁, hq, .head step_block (Steps.trans hr (.one step_inBlock))⟩
  | exit j =>
    by_cases hj : j = id
    · subst hj
      simp only [Exit.inBlock, if_true] at hq
      exact ⟨.normal, a₁, w₁, hq, .head step_block (hr k (by simp [exitTo]))⟩
    · simp only [Exit.inBlock, hj, if_false] at hq
      refine ⟨.exit j, a₁, w₁, hq, fun k' hk => .head step_block (hr k' ?_)⟩
      simp [exitTo, show (id == j) = false by simp; exact fun e => hj e.symm, hk]
  | goto l => exact ⟨_, a₁, w₁, hq, fun k' hk => .head step_block (hr k' (by simp [gotoIn, hk]))⟩
  | ret => exact ⟨_, a₁, w₁, hq, .of_steps (.one step_block) hr⟩
  | panic ch => exact ⟨_, a₁, w₁, hq, .of_steps (.one step_block) hr⟩
  | outgrown => exact ⟨_, a₁, w₁, hq, .of_steps (b := b) (k := k) (cs := cs) (e := .outgrown) (.one step_block) hr⟩

/-- A loop, by a relation and a measure. -/
theorem WpAt.loop {c : Code} (I : Act → World → Prop) (μ : Act → World → Nat) (h0 : I a w)
    (round : ∀ a w, I a w → WpAt b P c (Exit.then (fun a' w' => I a' w' ∧ μ a' w' < μ a w) Q) a w) : WpAt b P (.loop c) Q a w := by
  intro k cs
  have key : ∀ n a w, μ a w = n → I a w → ∃ e a' w', Q e a' w' ∧ Arrives P (lone (b.at a (.code c :: .inLoop c :: k)) cs w) b k cs e a' w' := by
    intro n
    induction n using Nat.strongRecOn with
    | _ n ih =>
      intro a w hn hI
      obtain ⟨e, a₁, w₁, hq, hr⟩ := round a w hI (.inLoop c :: k) cs
      by_cases he : e = .normal
      · subst he
        obtain ⟨hI₁, hlt⟩ := (show I a₁ w₁ ∧ μ a₁ w₁ < μ a w from hq)
        obtain ⟨e₂, a₂, w₂, hq₂, hr₂⟩ := ih _ (hn ▸ hlt) a₁ w₁ rfl hI₁
        exact ⟨e₂, a₂, w₂, hq₂, .of_steps (Steps.trans hr (.one step_inLoop)) hr₂⟩
      · refine ⟨e, a₁, w₁, ?_, arrives_past rfl he hr⟩
        cases e <;> first | exact absurd rfl he | exact hq
  obtain ⟨e, a', w', hq, hr⟩ := key _ a w rfl h0
  exact ⟨e, a', w', hq, .of_steps (.one step_loop) hr⟩

/-- A region whose first operation is a select of one receive with a default, the channel closed and empty: case 0, nothing received; then the region's other operations. -/
theorem WpAt.selectShut {id : Nat} {o : Oper} {rest : List Oper} {x : Operand} {elem : TypeId} {c cap s r : Nat} {z : Value} {tm : Bool} (hb : b.kind = .normal)
    (ho : o.op = .select #[{ chan := x, send := none, elem := elem }] false) (hg : o.guard = none) (hx : a.eval x = .chan (some c)) (hz : (zeroValue elem).run P w = .ok z w)
    (hc : w.heap[c]? = some (.chan cap #[] true s r tm))
    (h : wpList P (o :: rest).toArray Q rest (a.put o.dst (.tuple #[goInt 0, .bool false, z])) w) : WpAt b P (.region id (o :: rest).toArray false) Q a w := by
  intro k cs
  rw [← wpOps_eq_wpList rest 1 (fun j => by simp [Nat.add_comm])] at h
  obtain ⟨e, a₁, w₁, hq, hr⟩ := wp_ops _ _ _ h b k cs
  refine ⟨e, a₁, w₁, hq, .of_steps (.head step_region (.one ?_)) hr⟩
  have hl : List.range (o :: rest).toArray.size = 0 :: List.range' 1 rest.length := by
    rw [List.range_eq_range']
    simp [List.range'_succ]
  rw [hl]
  have hexec : (execOp a.eval o).run P w = .ok (.comm #[Conc.rcase c z] false .select) w := by
    simp [execOp, ho, Conc.rcase, hx, hz]
  have hst := Conc.step_lone_select_recv_shut (c := c) (z := z) (cap := cap) (s := s) (r := r) (tm := tm) (cs := cs)
    (Conc.stepG_comm (main := true) (k := k) (b := b) (a := a) (cs := cs) (ops := (o :: rest).toArray) (i := 0) (rest := List.range' 1 rest.length) (o := o) (cases := #[Conc.rcase c z]) (blocking := false) (shape := .select) (w' := w) rfl (by simp [Region.wanted, hg]) (by rw [hb]; decide) hexec) hc
  rw [Conc.lone_eq_solo, hst, Frame.finish_at]
  rfl

end

/-- From the promise at one frame of the plain kind to the kit's contract of a call. -/
theorem calls_of_wpAt {P : Program} {f : FuncId} {fn : Func} {c : Code} {args : Array Value} {w : World} {R : Ending → World → Prop} (hf : P.funcs[f]? = some fn) (hb : fn.body = some c)
    (h : ∀ b : Frame, b.kind = .normal → WpAt b P c (bodyPost P fn R) { tmps := args ++ Array.replicate (fn.ntmps - args.size) undef, defers := [] } w) : Calls P f args w R := by
  intro cs
  have henter : Frame.enter P f args .normal = ({ (default : Frame) with fn := f, kind := .normal } : Frame).at { tmps := args ++ Array.replicate (fn.ntmps - args.size) undef, defers := [] } [.code c] := by
    simp [Frame.enter, Frame.at, hf, hb]
  obtain ⟨e, a', w', hq, hr⟩ := h { (default : Frame) with fn := f, kind := .normal } rfl [] cs
  rw [← henter] at hr
  cases e with
  | normal =>
    obtain ⟨hd, v, hv, hR⟩ := hq
    exact ⟨.returned v, w', _, hR, Steps.trans hr (.one step_end), rfl, rfl, hd, rfl, fn, hf, hv⟩
  | ret =>
    obtain ⟨hd, v, hv, hR⟩ := hq
    obtain ⟨todo, hs⟩ := hr
    exact ⟨.returned v, w', _, hR, hs, rfl, rfl, hd, rfl, fn, hf, hv⟩
  | panic chain =>
    obtain ⟨hd, hR⟩ := hq
    obtain ⟨todo, hs⟩ := hr
    exact ⟨.panicked chain, w', _, hR, hs, rfl, rfl, hd, fn, hf⟩
  | exit id => exact hq.elim
  | goto l => exact hq.elim
  | outgrown => exact ⟨.outgrown, w', { (default : Frame) with fn := f, kind := .normal }, hq, hr.resolve_left (by simp), rfl, trivial⟩

end Go.Proofs.YbulkasjiDoor
