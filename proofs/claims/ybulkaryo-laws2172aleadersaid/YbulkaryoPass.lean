/-
  total.pass: all entries behind a count are forwarded.
-/
import Derived.Test.YbulkaryoForward
namespace Go.Proofs.Ybulkaryo
open Go.RowKit

/-- What is to be sent to tg of the entries es, the first of which bears the count n + 1. -/
def framesOf (tg : Nat) : Nat → List Ent → List Said
  | _, [] => []
  | n, e :: es => (tg, 12, n + 1, encOf e.fr e.seq e.name.data.toList e.body) :: framesOf tg (n + 1) es
theorem framesOf_snoc (tg : Nat) : ∀ (n : Nat) (es : List Ent) (e : Ent), framesOf tg n (es ++ [e]) = framesOf tg n es ++ [(tg, 12, n + es.length + 1, encOf e.fr e.seq e.name.data.toList e.body)]
  | n, [], e => rfl
  | n, x :: es, e => by
    simp only [List.cons_append, framesOf, framesOf_snoc tg (n + 1) es e, List.length_cons]
    rw [show n + 1 + es.length + 1 = n + (es.length + 1) + 1 from by omega]

/-- What a row of frames says. -/
def Snt.said (x : Snt) : Said := (x.tg, x.kd, x.count, x.bs)

/-- A row of frames of the call's own, each with its bytes. -/
structure Frames (w : World) (B : Nat) (sv : Value) (L : List Snt) : Prop where
  row : w.ownsRow B 64 4 sv L.length (L.flatMap Snt.cells)
  bytes : ∀ x ∈ L, w.ownsRow B 5 1 x.v x.bs.length (Lib.byteCells x.bs)

theorem Frames.frm {S : Nat → Prop} {w w' : World} {B : Nat} {sv : Value} {L : List Snt} (h : Frames w B sv L) (hf : Frm S w w') (hS : ∀ k, B ≤ k → k < w.heap.size → ¬ S k) : Frames w' B sv L :=
  ⟨hf.owns h.row (fun k hk => hS k (owns_lt h.row k hk).1 (owns_lt h.row k hk).2), fun x hx => hf.owns (h.bytes x hx) (fun k hk => hS k (owns_lt (h.bytes x hx) k hk).1 (owns_lt (h.bytes x hx) k hk).2)⟩

/-- Where P and every row have been kept. -/
theorem Kept.frm2 {S : Nat → Prop} {w w' : World} {B P : Nat} {cs : Array Value} {va vb ve : Value} {made : Bool} {arrs : List (Value × List UInt8)} {es : List Kep} (h : Kept w B P cs va vb ve made arrs es) (hf : Frm S w w') (hP : ¬ S P)
    (hS : ∀ {e : TypeId} {size n : Nat} {v : Value} {xs : List Value}, w.ownsRow B e size v n xs → e ≠ 64 → ∀ k, v.ownBlock = some k → ¬ S k) : Kept w' B P cs va vb ve made arrs es where
  low := h.low
  pb := hf.blk h.pb hP
  big := h.big
  rel := h.rel
  hd := h.hd
  sp := h.sp
  dr := h.dr
  c13 := h.c13
  c10 := h.c10
  ownA := hf.owns h.ownA (hS h.ownA (by decide))
  ownX := fun p hp => hf.owns (h.ownX p hp) (hS (h.ownX p hp) (by decide))
  ownB := by
    have hb := h.ownB
    cases made with
    | true =>
      simp only [if_true] at hb ⊢
      exact hf.owns hb (hS hb (by decide))
    | false => exact hb
  ownE := hf.owns h.ownE (hS h.ownE (by decide))
  apAB := h.apAB
  apAE := h.apAE
  apBE := h.apBE
  apXA := h.apXA
  apXB := h.apXB
  apXE := h.apXE
  apXX := h.apXX
  ok := h.ok

set_option maxRecDepth 100000 in
set_option maxHeartbeats 1000000 in
theorem pass_ok (tg k0 : Nat) (B E P : Nat) (cs : Array Value) (va vb ve : Value) (made : Bool) (arrs : List (Value × List UInt8)) (es : List Kep) (sv z : Value) (L : List Snt) (w : World)
    (hK : Kept w B P cs va vb ve made arrs es) (h0 : cs[0]? = some (.iface 24 (.pointer (some ⟨E, 0, none⟩)))) (h6 : cs[6]? = some (.int .u64 es.length)) (hE : Blk w E #[sv, z] 27) (hEB : E < B) (hF : Frames w B sv L) (hB : B ≤ w.heap.size)
    (hes : es.length ≤ 1024) (hL : L.length + es.length ≤ 1048576) (hbd : ∀ p ∈ arrs, p.2.length ≤ 1073741824) (hfit : ∀ y ∈ es, y.e.fr < 256 ∧ y.e.seq < 18446744073709551616 ∧ y.e.name.size + y.e.body.length ≤ 1048576) (hk0 : k0 < 256) :
    Calls Yba.prog 16 #[.pointer (some ⟨P, 0, none⟩), .int .i64 tg, .int .u64 k0] w fun en w' => en = .returned (.tuple #[]) ∧
      ∃ sv' M, Kept w' B P cs va vb ve made arrs es ∧ Blk w' E #[sv', z] 27 ∧ Frames w' B sv' (L ++ M) ∧ M.map Snt.said = framesOf tg k0 ((es.map (·.e)).drop k0) ∧ Frm (fun k => k = E ∨ B ≤ k) w w' := by
  have hEP : E ≠ P := blk_ne hE hK.pb (by decide)
  have hlow := hK.low
  have c9 := (hK.pb.cell 9).trans hK.rel
  go_enter Yba.func16, Yba.ntmps16
  go_wp2_with fail
  go_loopw [6] (fun vn wr => ∃ (i : Nat) (M : List Snt) (sv' : Value), vn = .int .u64 ((i : Int) + 1) ∧ k0 ≤ i ∧ (i ≤ es.length ∨ i = k0) ∧ Kept wr B P cs va vb ve made arrs es ∧ Blk wr E #[sv', z] 27 ∧ Frames wr B sv' (L ++ M) ∧
    M.map Snt.said = framesOf tg k0 (((es.map (·.e)).drop k0).take (i - k0)) ∧ M.length = i - k0 ∧ Frm (fun k => k = E ∨ B ≤ k) w wr) (fun vn _ => es.length + 300 - (intOf vn).toNat)
  case atStart => exact ⟨k0, [], sv, rfl, Nat.le_refl _, .inr rfl, hK, hE, by simpa using hF, by simp [framesOf], by simp, Frm.refl _ _⟩
  case round =>
    obtain ⟨i, M, sv', rfl, hki, hie, hK1, hE1, hF1, hM, hMl, hf1⟩ := hrel
    have c6 := (hK1.pb.cell 6).trans h6
    have hBw : B ≤ wr.heap.size := Nat.le_trans hB hf1.size
    by_cases hlt : i < es.length
    · obtain ⟨y, hy⟩ : ∃ y, es[i]? = some y := ⟨es[i], by simp [hlt]⟩
      have hym := List.mem_of_getElem? hy
      obtain ⟨q1, q2, q3⟩ := hfit y hym
      have hmade : made = true := by
        cases made with
        | true => rfl
        | false =>
          have := hK1.ownB
          simp only [Bool.false_eq_true, if_false] at this
          rw [this.2.2] at hlt
          simp at hlt
      subst hmade
      have hlt' : (i : Int) + 1 ≤ es.length := by omega
      go_wp2_with (go_at_call 24; refine (at_ok i y B P cs va vb ve arrs es _ hK1 hy hes hbd).mono ?_; rintro e w1 ⟨bv, rfl, rd1, hbv, f1⟩)
      have hS1 : ∀ {e : TypeId} {size n : Nat} {v : Value} {xs : List Value}, w1.ownsRow B e size v n xs → e ≠ 64 → ∀ k, v.ownBlock = some k → ¬ (k = E ∨ sv'.ownBlock = some k) := fun ho he k hk h => by
        rcases h with h | h
        · have := (owns_lt ho k hk).1
          omega
        · exact owns_apart ho (f1.owns hF1.row (fun _ _ => id)) he k hk h
      have hK2 := hK1.frm f1 id (fun _ _ _ => id)
      have hE2 := f1.blk hE1 id
      have hF2 := hF1.frm f1 (fun _ _ _ => id)
      have hl1 : (L ++ M).length ≤ 1048576 := by
        rw [List.length_append]
        omega
      rw [show (i : Int) + 1 = ((i + 1 : Nat) : Int) from rfl]
      refine (forward_ok tg (i + 1) y.e.fr y.e.seq y.e.name bv y.e.body B E P (L ++ M).length cs sv' z _ w1 hK2.pb h0 hE2 hEB hF2.row (Nat.le_trans hBw f1.size) hl1 hlow q1 q2 (by omega) (by omega) rd1).mono ?_
      rintro e w2 ⟨rfl, sv2, v2, hE3, own3, own4, hv2, f2⟩
      have hK3 := hK2.frm2 f2 (fun h => by rcases h with h | h; (· exact hEP h.symm); (· have := (owns_lt hF2.row _ h).1; omega)) hS1
      have hF3 : Frames w2 B sv2 (L ++ (M ++ [(⟨tg, i + 1, v2, encOf y.e.fr y.e.seq y.e.name.data.toList y.e.body, 12⟩ : Snt)])) := by
        rw [← List.append_assoc]
        refine ⟨?_, fun x hx => ?_⟩
        · rw [List.flatMap_append, List.length_append]
          exact own3
        · rcases List.mem_append.1 hx with hx | hx
          · exact f2.owns (hF2.bytes x hx) (hS1 (hF2.bytes x hx) (by decide))
          · obtain rfl : x = ⟨tg, i + 1, v2, _, 12⟩ := by simpa using hx
            exact own4
      have hf2 : Frm (fun k => k = E ∨ B ≤ k) w w2 := (hf1.trans f1 (fun _ _ h => h.elim)).trans f2 (fun j hj h => orMap h id fun h => (owns_lt hF2.row _ h).1)
      have hM2 : (M ++ [(⟨tg, i + 1, v2, encOf y.e.fr y.e.seq y.e.name.data.toList y.e.body, 12⟩ : Snt)]).map Snt.said = framesOf tg k0 (((es.map (·.e)).drop k0).take (i + 1 - k0)) := by
        have hg : ((es.map (·.e)).drop k0)[i - k0]? = some y.e := by
          rw [List.getElem?_drop, List.getElem?_map, show k0 + (i - k0) = i from by omega, hy]
          rfl
        rw [show i + 1 - k0 = (i - k0) + 1 from by omega, List.take_add_one, hg, Option.toList_some, framesOf_snoc, List.map_append, hM, List.length_take]
        have hl : ((es.map (·.e)).drop k0).length = es.length - k0 := by simp
        rw [hl, Nat.min_eq_left (by omega), show k0 + (i - k0) = i from by omega]
        rfl
      go_wp2_with fail
      refine ⟨⟨i + 1, M ++ [(⟨tg, i + 1, v2, encOf y.e.fr y.e.seq y.e.name.data.toList y.e.body, 12⟩ : Snt)], sv2, by go_num, by omega, by omega, hK3, hE3, hF3, hM2, by rw [List.length_append, List.length_singleton]; omega, hf2⟩, ?_⟩
      simp [intOf]
      omega
    · have hlt' : ¬ (i : Int) + 1 ≤ es.length := by omega
      go_wp2_with fail
      go_end0
      refine ⟨rfl, hK1, sv', hE1, M, hF1, ?_, hf1⟩
      rw [hM, List.take_of_length_le]
      rw [List.length_drop, List.length_map]
      omega
end Go.Proofs.Ybulkaryo
