/-
  total.sendOthers: a frame to each other member that is not lost.
-/
import Derived.Test.YbulkaryoSame
namespace Go.Proofs.Ybulkaryo
open Go.RowKit

/-- The members below k to whom is sent: not this one, not the lost ones. -/
def others (me : Nat) (g : Nat → Bool) (k : Nat) : List Nat := (List.range k).filter fun i => !(i == me) && !g i
theorem others_in {me k : Nat} {g : Nat → Bool} (h1 : k ≠ me) (h2 : g k = false) : others me g (k + 1) = others me g k ++ [k] := by
  unfold others
  rw [List.range_succ, List.filter_append]
  simp [h1, h2]
theorem others_out {me k : Nat} {g : Nat → Bool} (h : k = me ∨ g k = true) : others me g (k + 1) = others me g k := by
  unfold others
  rw [List.range_succ, List.filter_append]
  rcases h with h | h
  · simp [h]
  · simp [h]

theorem owns_blk {w : World} {base : Nat} {e t : TypeId} {size n b : Nat} {v : Value} {xs : List Value} {cs : Array Value} (h : w.ownsRow base e size v n xs) (k : Blk w b cs t) (hne : e ≠ t) : v.ownBlock ≠ some b := fun hv => by
  rcases h.2 with ⟨rfl, _⟩ | ⟨g1, c1, cur1, rfl, _, h1, _⟩
  · cases hv
  have e1 : g1 = b := Option.some.inj hv
  subst e1
  unfold Blk at k
  rw [h1] at k
  injection k with k
  injection k with _ k
  exact hne k

/-- The environment behind sendings. -/
structure Sends (w : World) (B E : Nat) (z : Value) (L : List Snt) (says : List Said) (w' : World) : Prop where
  ex : ∃ sv' M, Blk w' E #[sv', z] 27 ∧ Frames w' B sv' (L ++ M) ∧ M.map Snt.said = says ∧ Frm (fun k => k = E ∨ B ≤ k) w w'

set_option maxRecDepth 100000 in
set_option maxHeartbeats 1000000 in
theorem sendOthers_ok (cnt me n c G : Nat) (g : Nat → Bool) (B E P : Nat) (cs : Array Value) (sv z : Value) (L : List Snt) (w : World)
    (hP : Blk w P cs 48) (h0 : cs[0]? = some (.iface 24 (.pointer (some ⟨E, 0, none⟩)))) (h1 : cs[1]? = some (.int .i64 me)) (h3 : cs[3]? = some (.slice (some ⟨G, 0, none⟩) n c)) (hg : ∀ i, i < n → w.cell? ⟨G, i, none⟩ = some (.bool (g i))) (hn : n ≤ 8)
    (hE : Blk w E #[sv, z] 27) (hEB : E < B) (hPB : P < B) (hGB : G < B) (hGE : G ≠ E) (hF : Frames w B sv L) (hB : B ≤ w.heap.size) (hL : L.length ≤ 1000000) :
    Calls Yba.prog 19 #[.pointer (some ⟨P, 0, none⟩), .agg #[.int .u8 21, .int .u64 cnt, .slice none 0 0]] w fun en w' => en = .returned (.tuple #[]) ∧
      Sends w B E z L ((others me g n).map fun i => (i, 21, cnt, [])) w' := by
  have hEP : E ≠ P := blk_ne hE hP (by decide)
  have hmeth : ∀ w : World, (method 220 24 (.pointer (some ⟨E, 0, none⟩)) "Send").run Yba.prog w = .ok (61, .pointer (some ⟨E, 0, none⟩)) w := fun _ => by kernel_rfl
  have hn' : (n : Int) ≤ 8 := by omega
  go_enter Yba.func19, Yba.ntmps19
  go_upto_region 1 with fail
  go_name_world W hW
  have hf : Frm (fun _ => False) w W := hW ▸ (Frm.refl _ w).alloc _
  have bX : Blk W w.heap.size #[.int .u8 21, .int .u64 cnt, .slice none 0 0] 82 := hW ▸ Blk.new w _ 82
  clear hW
  have hP0 := hf.blk hP id
  have hE0 := hf.blk hE id
  have hF0 := hF.frm hf (fun _ _ _ => id)
  have c3 := (hP0.cell 3).trans h3
  go_wp2_with fail
  go_loopw [11] (fun i wr => ∃ (k : Nat) (M : List Snt) (sv' : Value), k ≤ n ∧ i = .int .i64 k ∧ Blk wr E #[sv', z] 27 ∧ Frames wr B sv' (L ++ M) ∧ M.map Snt.said = ((others me g k).map fun i => ((i, 21, cnt, []) : Said)) ∧ M.length ≤ k ∧ Frm (fun k => k = E ∨ B ≤ k) W wr ∧
    Blk wr w.heap.size #[.int .u8 21, .int .u64 cnt, .slice none 0 0] 82) (fun i _ => n - (intOf i).toNat)
  case atStart => exact ⟨0, [], sv, Nat.zero_le _, rfl, hE0, by simpa using hF0, rfl, Nat.le_refl _, Frm.refl _ _, bX⟩
  case round =>
    obtain ⟨k, M, sv', hk, rfl, hE1, hF1, hM, hMl, hf1, bX1⟩ := hrel
    have hP1 := hf1.blk hP0 (fun h => by omega)
    have hgw : ∀ i, i < n → wr.cell? ⟨G, i, none⟩ = some (.bool (g i)) := fun i hi => by
      have hGw : G < w.heap.size := by omega
      rw [hf1.cell (a := ⟨G, i, none⟩) (Nat.lt_of_lt_of_le hGw hf.size) (by show ¬ (G = E ∨ B ≤ G); omega), hf.cell (a := ⟨G, i, none⟩) hGw id]
      exact hg i hi
    by_cases hlt : k < n
    · have hlt' : (k : Int) < n := by omega
      have hk0 : (0 : Int) ≤ k := by omega
      have cg := hgw k hlt
      have c1 := (hP1.cell 1).trans h1
      have c0 := (hP1.cell 0).trans h0
      have x0 := (bX1.cell 0).trans (show _ = some (.int .u8 21) from rfl)
      have x1 := (bX1.cell 1).trans (show _ = some (.int .u64 cnt) from rfl)
      have x2 := (bX1.cell 2).trans (show _ = some (.slice none 0 0) from rfl)
      clear hgw hg
      by_cases hgo : k ≠ me ∧ g k = false
      · obtain ⟨g1, g2⟩ := hgo
        have g1' : ¬ (k : Int) = me := by omega
        rw [g2] at cg
        go_upto_region 5 with fail
        have hl1 : (L ++ M).length ≤ 1048576 := by
          rw [List.length_append]
          omega
        have hBr : B ≤ wr.heap.size := Nat.le_trans hB (Nat.le_trans hf.size hf1.size)
        have hap : ∀ {e : TypeId} {size n : Nat} {v : Value} {xs : List Value}, wr.ownsRow B e size v n xs → e ≠ 64 → ∀ k, v.ownBlock = some k → ¬ (k = E ∨ sv'.ownBlock = some k) := fun ho he k hk h => by
          rcases h with h | h
          · have := (owns_lt ho k hk).1
            omega
          · exact owns_apart ho hF1.row he k hk h
        have hnX : ¬ (w.heap.size = E ∨ sv'.ownBlock = some w.heap.size) := fun h => by
          rcases h with h | h
          · omega
          · exact owns_blk hF1.row bX1 (by decide) h
        go_region_held3 (fun w' => w'.cell? ⟨P, 0, none⟩ = some (.iface 24 (.pointer (some ⟨E, 0, none⟩))) ∧ w'.cell? ⟨w.heap.size, 0, none⟩ = some (.int .u8 21) ∧ w'.cell? ⟨w.heap.size, 1, none⟩ = some (.int .u64 cnt) ∧ w'.cell? ⟨w.heap.size, 2, none⟩ = some (.slice none 0 0)) (go_keep) (first
          | (go_at_call 61; refine (send_ok 21 k cnt none 0 0 B E (L ++ M).length sv' z _ _ (by exact hE1) hEB (by exact hF1.row) (by exact hBr) hl1).mono ?_; rintro e w2 ⟨rfl, sv2, bE2, own3, f2⟩; have f2' : Frm (fun k => k = E ∨ sv'.ownBlock = some k) wr w2 := (Frm.refl _ wr).drew.trans f2 (fun _ _ h => h); have bX2 := f2'.blk bX1 hnX; have hP3 := f2'.blk hP1 (fun h => by rcases h with h | h; (· omega); (· have := (owns_lt hF1.row _ h).1; omega)); have e0 := (hP3.cell 0).trans h0; have z0 := (bX2.cell 0).trans (show _ = some (.int .u8 21) from rfl); have z1 := (bX2.cell 1).trans (show _ = some (.int .u64 cnt) from rfl); have z2 := (bX2.cell 2).trans (show _ = some (.slice none 0 0) from rfl)))
        go_wp2_with fail
        refine ⟨⟨k + 1, M ++ [⟨k, cnt, .slice none 0 0, [], 21⟩], sv2, hlt, by go_num, bE2, ?_, ?_, ?_, hf1.trans f2' (fun j _ h => orMap h id fun h => (owns_lt hF1.row _ h).1), bX2⟩, by simp [intOf]; omega⟩
        · rw [← List.append_assoc]
          refine ⟨?_, fun x hx => ?_⟩
          · rw [List.flatMap_append, List.length_append]
            exact own3
          · rcases List.mem_append.1 hx with hx | hx
            · exact f2'.owns (hF1.bytes x hx) (hap (hF1.bytes x hx) (by decide))
            · obtain rfl : x = ⟨k, cnt, .slice none 0 0, [], 21⟩ := by simpa using hx
              exact World.ownsRow_nil _ _ _ _
        · rw [others_in g1 g2, List.map_append, List.map_append, hM]
          rfl
        · rw [List.length_append, List.length_singleton]
          omega
      · have hgo' : k = me ∨ g k = true := by
          rcases Nat.decEq k me with h | h
          · right
            cases hb : g k with
            | true => rfl
            | false => exact absurd ⟨h, hb⟩ hgo
          · exact .inl h
        have hend : (∃ (k' : Nat) (M : List Snt) (sv' : Value), k' ≤ n ∧ (Value.int IntKind.i64 ((k : Int) + 1)) = .int .i64 k' ∧ Blk wr E #[sv', z] 27 ∧ Frames wr B sv' (L ++ M) ∧ M.map Snt.said = ((others me g k').map fun i => ((i, 21, cnt, []) : Said)) ∧ M.length ≤ k' ∧ Frm (fun k => k = E ∨ B ≤ k) W wr ∧
            Blk wr w.heap.size #[.int .u8 21, .int .u64 cnt, .slice none 0 0] 82) := ⟨k + 1, M, sv', hlt, rfl, hE1, hF1, by rw [others_out hgo']; exact hM, by omega, hf1, bX1⟩
        have hHid : Hid (∃ (k' : Nat) (M : List Snt) (sv' : Value), k' ≤ n ∧ (Value.int IntKind.i64 ((k : Int) + 1)) = .int .i64 k' ∧ Blk wr E #[sv', z] 27 ∧ Frames wr B sv' (L ++ M) ∧ M.map Snt.said = ((others me g k').map fun i => ((i, 21, cnt, []) : Said)) ∧ M.length ≤ k' ∧ Frm (fun k => k = E ∨ B ≤ k) W wr ∧
            Blk wr w.heap.size #[.int .u8 21, .int .u64 cnt, .slice none 0 0] 82) := hend
        clear hend
        by_cases hme : k = me
        · subst hme
          clear hgo' hgo
          go_wp2_with fail
          exact ⟨hHid.out, by simp [intOf]; omega⟩
        · have hgk : g k = true := hgo'.resolve_left hme
          have hme' : ¬ (k : Int) = me := by omega
          rw [hgk] at cg
          clear hgo' hgo
          go_wp2_with fail
          exact ⟨hHid.out, by simp [intOf]; omega⟩
    · have hlt' : ¬ (k : Int) < n := by omega
      obtain rfl : k = n := by omega
      go_wp2_with fail
      go_end0
      exact ⟨rfl, ⟨sv', M, hE1, hF1, hM, hf.mono (T := fun k => k = E ∨ B ≤ k) (fun _ _ h => h.elim) |>.trans hf1 (fun _ _ h => h)⟩⟩
end Go.Proofs.Ybulkaryo
