/-
  The entries as they come in; zzs2172aok.
-/
import Derived.Test.YbulkaryoSupply
namespace Go.Proofs.Ybulkaryo
open Go.RowKit

/-- The i-th element of the row at b, o reads as the entry e. -/
structure ArgAt (w : World) (B b o i : Nat) (e : Ent) : Prop where
  fr : w.cell? ⟨b, o + i * 4, none⟩ = some (.int .u8 e.fr)
  seq : w.cell? ⟨b, o + i * 4 + 1, none⟩ = some (.int .u64 e.seq)
  name : w.cell? ⟨b, o + i * 4 + 2, none⟩ = some (.string e.name)
  body : ∃ p c, w.cell? ⟨b, o + i * 4 + 3, none⟩ = some (.slice p e.body.length c) ∧ Rd w (.slice p e.body.length c) e.body ∧ ∀ k, rdB (Value.slice p e.body.length c) = some k → k < B

/-- The slice v reads as the entries es; all of it lies below B. -/
structure Args (w : World) (B : Nat) (b o : Nat) (es : List Ent) : Prop where
  low : es ≠ [] → b < B
  at_ : ∀ i e, es[i]? = some e → ArgAt w B b o i e

theorem Args.frm {S : Nat → Prop} {w w' : World} {B b o : Nat} {es : List Ent} (h : Args w B b o es) (hf : Frm S w w') (hB : B ≤ w.heap.size) (hS : ∀ k, k < B → ¬ S k) : Args w' B b o es := by
  refine ⟨h.low, fun i e hi => ?_⟩
  have hb : b < B := h.low (fun h0 => by rw [h0] at hi; cases hi)
  have hc : ∀ j, w'.cell? ⟨b, j, none⟩ = w.cell? ⟨b, j, none⟩ := fun j => hf.cell (a := ⟨b, j, none⟩) (Nat.lt_of_lt_of_le hb hB) (hS b hb)
  obtain ⟨h1, h2, h3, p, c, h4, h5, h6⟩ := h.at_ i e hi
  exact ⟨(hc _).trans h1, (hc _).trans h2, (hc _).trans h3, p, c, (hc _).trans h4, h5.frm hf (fun k hk => hS k (h6 k hk)), h6⟩

/-- The slice of that row: nil where there is no element, or a pointer. -/
def ArgV (v : Value) (b o n : Nat) : Prop := (∃ p c, v = .slice p 0 c ∧ n = 0) ∨ ∃ c, v = .slice (some ⟨b, o, none⟩) n c
theorem ArgV.form {v : Value} {b o n : Nat} (h : ArgV v b o n) : ∃ p c, v = .slice p n c ∧ (0 < n → p = some ⟨b, o, none⟩) := by
  rcases h with ⟨p, c, rfl, rfl⟩ | ⟨c, rfl⟩
  · exact ⟨p, c, rfl, fun h => absurd h (Nat.lt_irrefl _)⟩
  · exact ⟨_, c, rfl, fun _ => rfl⟩

/-- The tests of zzs2172aok. -/
def okEnt (e : Ent) : Bool := !decide (1048576 < e.name.size + e.body.length)
def okAll (es : List Ent) : Bool := !decide (1024 < es.length) && es.all okEnt

set_option maxRecDepth 100000 in
set_option maxHeartbeats 1000000 in
theorem ok_ok (v : Value) (b o B : Nat) (es : List Ent) (w : World) (hv : ArgV v b o es.length) (hA : Args w B b o es) (hl : es.length ≤ 140737488355328) (hsz : ∀ e ∈ es, e.name.size ≤ 140737488355328 ∧ e.body.length ≤ 140737488355328) :
    Calls Yba.prog 5 #[v] w fun en w' => en = .returned (.bool (okAll es)) ∧ ∃ q, w' = w.drewN q := by
  obtain ⟨p, c, rfl, hp⟩ := hv.form
  go_enter Yba.func5, Yba.ntmps5
  by_cases h1 : 1024 < es.length
  · have h1' : (1024 : Int) < es.length := by omega
    go_wp2_with fail
    go_ret
    refine ⟨by simp [okAll, h1], 0, rfl⟩
  · have h1' : ¬ (1024 : Int) < es.length := by omega
    go_wp2_with fail
    go_loopw [9] (fun i wr => ∃ k : Nat, k ≤ es.length ∧ i = .int .i64 k ∧ (es.take k).all okEnt = true ∧ ∃ q, wr = w.drewN q) (fun i _ => es.length - (intOf i).toNat)
    case atStart => exact ⟨0, Nat.zero_le _, rfl, rfl, 0, rfl⟩
    case round =>
      obtain ⟨k, hk, rfl, hall, q, rfl⟩ := hrel
      by_cases hlt : k < es.length
      · obtain ⟨e, he⟩ : ∃ e, es[k]? = some e := ⟨es[k], by simp [hlt]⟩
        have hp' := hp (by omega)
        subst hp'
        obtain ⟨a1, a2, a3, pb, cb, a4, a5, a6⟩ := hA.at_ k e he
        obtain ⟨s1, s2⟩ := hsz e (List.mem_of_getElem? he)
        have s1' : (e.name.size : Int) ≤ 140737488355328 := by omega
        have s2' : (e.body.length : Int) ≤ 140737488355328 := by omega
        have hlt' : (k : Int) < es.length := by omega
        have hk0 : (0 : Int) ≤ k := by omega
        clear hA hsz a5 a6
        by_cases hbig : (1048576 : Int) < (e.name.size : Int) + (e.body.length : Int)
        · go_upto_region 6 with fail
          go_quiet (fail)
          go_wp2_with fail
          go_ret
          refine ⟨?_, _, rfl⟩
          have : okEnt e = false := by unfold okEnt; simp; omega
          have h2 : es.all okEnt = false := by
            rw [List.all_eq_false]
            exact ⟨e, List.mem_of_getElem? he, by simp [this]⟩
          simp [okAll, h2]
        · go_upto_region 6 with fail
          go_quiet (fail)
          go_wp2_with fail
          refine ⟨⟨k + 1, hlt, by go_num, ?_, _, rfl⟩, by simp [intOf]; omega⟩
          rw [List.take_add_one, he, List.all_append, hall]
          have : okEnt e = true := by unfold okEnt; simp; omega
          simp [this]
      · have hlt' : ¬ (k : Int) < es.length := by omega
        go_wp2_with fail
        go_ret
        refine ⟨?_, _, rfl⟩
        rw [List.take_of_length_le (by omega)] at hall
        simp [okAll, hall, h1]
end Go.Proofs.Ybulkaryo
