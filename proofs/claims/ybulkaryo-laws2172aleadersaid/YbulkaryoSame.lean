/-
  zzs2172asame: two rows of frames that say the same.
-/
import Derived.Test.YbulkaryoWant
namespace Go.Proofs.Ybulkaryo
open Go.RowKit

theorem snt_at {L : List Snt} {x : Snt} {i : Nat} (h : L[i]? = some x) (j : Nat) (hj : j < 4) : (L.flatMap Snt.cells)[4 * i + j]? = x.cells[j]? := by
  induction L generalizing i with
  | nil => cases h
  | cons z L ih =>
    rw [List.flatMap_cons]
    cases i with
    | zero =>
      obtain rfl : z = x := by simpa using h
      rw [List.getElem?_append_left (by rw [Snt.cells_length]; omega)]
      simp
    | succ i =>
      rw [List.getElem?_append_right (by rw [Snt.cells_length]; omega), Snt.cells_length]
      have := ih (i := i) (by simpa using h)
      rw [← this]
      congr 1
      omega

theorem Frames.cell {w : World} {B g c n i j : Nat} {L : List Snt} {x : Snt} {u : Value} (h : Frames w B (.slice (some ⟨g, 0, none⟩) n c) L) (hx : L[i]? = some x) (hj : j < 4) (hu : x.cells[j]? = some u) : w.cell? ⟨g, i * 4 + j, none⟩ = some u := by
  have := h.row.cells (g := g) rfl (4 * i + j) u ((snt_at hx j hj).trans hu)
  rw [add_lit, Nat.zero_add, Nat.mul_comm] at this
  exact this

theorem equal_q (v1 v2 : Value) (b1 b2 : List UInt8) (w : World) (h1 : Rd w v1 b1) (h2 : Rd w v2 b2) :
    Calls Yba.prog 15 #[v1, v2] w fun e w' => e = .returned (.bool (b1 == b2)) ∧ ∃ n, w' = w.drewN n :=
  (equal_ok v1 v2 b1 b2 w h1 h2).mono fun _ _ h => ⟨h.1, 0, h.2⟩

set_option maxRecDepth 100000 in
set_option maxHeartbeats 1000000 in
theorem same_ok (B1 B2 : Nat) (v1 v2 : Value) (L M : List Snt) (w : World) (h1 : Frames w B1 v1 L) (h2 : Frames w B2 v2 M) (hs : L.map Snt.said = M.map Snt.said) (hl : L.length ≤ 1048576) :
    Calls Yba.prog 10 #[v1, v2] w fun en w' => en = .returned (.bool true) ∧ ∃ q, w' = w.drewN q := by
  have hlen : M.length = L.length := by
    have := congrArg List.length hs
    simpa using this.symm
  obtain ⟨p1, c1, rfl, _, _, hp1⟩ := owns_form h1.row
  obtain ⟨p2, c2, rfl, _, _, hp2⟩ := owns_form h2.row
  have hl' : (L.length : Int) ≤ 1048576 := by omega
  go_enter Yba.func10, Yba.ntmps10
  go_wp2_with fail
  go_loopw [13] (fun i wr => ∃ k : Nat, k ≤ L.length ∧ i = .int .i64 k ∧ ∃ q, wr = w.drewN q) (fun i _ => L.length - (intOf i).toNat)
  case atStart => exact ⟨0, Nat.zero_le _, rfl, 0, rfl⟩
  case round =>
    obtain ⟨k, hk, rfl, q, hwr⟩ := hrel
    have hw1 : Frames wr B1 (.slice p1 L.length c1) L := hwr ▸ h1.frm (S := fun _ => False) ((Frm.refl _ _).drewN q) (fun _ _ _ => id)
    have hw2 : Frames wr B2 (.slice p2 M.length c2) M := hwr ▸ h2.frm (S := fun _ => False) ((Frm.refl _ _).drewN q) (fun _ _ _ => id)
    have hwr' : ∃ q, wr = w.drewN q := ⟨q, hwr⟩
    clear h1 h2 hwr
    by_cases hlt : k < L.length
    · obtain ⟨x, hx⟩ : ∃ x, L[k]? = some x := ⟨L[k], by simp [hlt]⟩
      obtain ⟨y, hy⟩ : ∃ y, M[k]? = some y := ⟨M[k], by simp [hlen, hlt]⟩
      have hxy : x.said = y.said := by
        have := congrArg (fun l => l[k]?) hs
        simp only [List.getElem?_map, hx, hy, Option.map_some, Option.some.injEq] at this
        exact this
      have e1 : y.tg = x.tg := (congrArg Prod.fst hxy).symm
      have e2 : y.count = x.count := (congrArg (fun p => p.2.2.1) hxy).symm
      have e4 : y.kd = x.kd := (congrArg (fun p => p.2.1) hxy).symm
      have e3 : y.bs = x.bs := (congrArg (fun p => p.2.2.2) hxy).symm
      obtain ⟨g1, rfl⟩ := hp1 (by omega)
      obtain ⟨g2, rfl⟩ := hp2 (by omega)
      obtain ⟨px, cx, hxv, _, _, _⟩ := owns_form (hw1.bytes x (List.mem_of_getElem? hx))
      obtain ⟨py, cy, hyv, _, _, _⟩ := owns_form (hw2.bytes y (List.mem_of_getElem? hy))
      have r1 := Rd.of_owns (hw1.bytes x (List.mem_of_getElem? hx))
      have r2 := Rd.of_owns (hw2.bytes y (List.mem_of_getElem? hy))
      rw [e3] at hyv r2
      rw [hxv] at r1
      rw [hyv] at r2
      have a0 : wr.cell? ⟨g1, k * 4, none⟩ = some (.int .i64 x.tg) := hw1.cell (j := 0) hx (by omega) rfl
      have a1 : wr.cell? ⟨g1, k * 4 + 1, none⟩ = some (.int .u8 x.kd) := hw1.cell hx (by omega) rfl
      have a2 : wr.cell? ⟨g1, k * 4 + 2, none⟩ = some (.int .u64 x.count) := hw1.cell hx (by omega) rfl
      have a3 : wr.cell? ⟨g1, k * 4 + 3, none⟩ = some (.slice px x.bs.length cx) := hw1.cell hx (by omega) (congrArg some hxv)
      have b0 : wr.cell? ⟨g2, k * 4, none⟩ = some (.int .i64 x.tg) := hw2.cell (j := 0) hy (by omega) (by rw [← e1]; rfl)
      have b1 : wr.cell? ⟨g2, k * 4 + 1, none⟩ = some (.int .u8 x.kd) := hw2.cell hy (by omega) (by rw [← e4]; rfl)
      have b2 : wr.cell? ⟨g2, k * 4 + 2, none⟩ = some (.int .u64 x.count) := hw2.cell hy (by omega) (by rw [← e2]; rfl)
      have b3 : wr.cell? ⟨g2, k * 4 + 3, none⟩ = some (.slice py x.bs.length cy) := hw2.cell hy (by omega) (congrArg some hyv)
      have hlt' : (k : Int) < L.length := by omega
      have hk0 : (0 : Int) ≤ k := by omega
      clear hw1 hw2 hs hxv hyv hxy e1 e2 e3 e4
      go_upto_region 6 with fail
      go_quiet (first | (go_at_call 15; refine Calls.quiet_of (equal_q _ _ x.bs x.bs _ ?_ ?_); exact r1; exact r2))
      go_wp2_with fail
      obtain ⟨q, hwr⟩ := hwr'
      exact ⟨⟨k + 1, hlt, by go_num, q + nq, by rw [hwr]; simp⟩, by simp [intOf]; omega⟩
    · have hlt' : ¬ (k : Int) < L.length := by omega
      go_wp2_with fail
      go_ret
      obtain ⟨q, hwr⟩ := hwr'
      exact ⟨rfl, _, hwr⟩
end Go.Proofs.Ybulkaryo
