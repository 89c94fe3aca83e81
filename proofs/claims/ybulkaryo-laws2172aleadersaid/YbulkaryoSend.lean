/-
  The environment keeps what is sent.
-/
import Derived.Test.YbulkaryoAt
namespace Go.Proofs.Ybulkaryo
open Go.RowKit
attribute [local go_sem] later

theorem info64 : (Yba.prog.info? 64).map (fun i => (i.zero, i.size, i.bytes)) = some (some (.agg #[.int .i64 0, .int .u8 0, .int .u64 0, .slice none 0 0]), 4, 48) := by kernel_rfl

/-- What stands in a row of frames: to whom, the count, the body's slice. -/
structure Snt where
  tg : Nat
  count : Nat
  v : Value
  bs : List UInt8
  kd : Int
/-- What a frame says: to whom, its kind, the count, the bytes. -/
abbrev Said := Nat × Int × Nat × List UInt8
def Snt.cells (x : Snt) : List Value := [.int .i64 x.tg, .int .u8 x.kd, .int .u64 x.count, x.v]
theorem Snt.cells_length (x : Snt) : x.cells.length = 4 := rfl

theorem src_four {W : World} {a b c d : Value} {t tx e : TypeId} (hk : Yba.prog.underlying tx = some (.slice e)) {A : Nat} (hb : Blk W A #[a, b, c, d] t) (h1 : ∀ u ∈ [a, b, c, d], u.oneCell' = true) : Src Yba.prog 4 tx (.slice (some ⟨A, 0, none⟩) 1 1) 1 [a, b, c, d] W := by
  refine Src.ofSlice _ hk ⟨A, 0, none⟩ 1 1 [a, b, c, d] rfl (fun j u hu => ?_) h1
  rw [add_lit, hb.cell]
  simpa using hu

set_option maxRecDepth 100000 in
set_option maxHeartbeats 1000000 in
theorem send_ok (kd : Int) (tg n : Nat) (pv : Option Addr) (lv cv : Nat) (B E m : Nat) (sv z : Value) (xs : List Value) (w : World) (hE : Blk w E #[sv, z] 27) (hEB : E < B) (hown : w.ownsRow B 64 4 sv m xs) (hB : B ≤ w.heap.size) (hm : m ≤ 1048576) :
    Calls Yba.prog 61 #[.pointer (some ⟨E, 0, none⟩), .int .i64 tg, .agg #[.int .u8 kd, .int .u64 n, .slice pv lv cv]] w fun en w' => en = .returned (.tuple #[]) ∧
      ∃ sv', Blk w' E #[sv', z] 27 ∧ w'.ownsRow B 64 4 sv' (m + 1) (xs ++ [.int .i64 tg, .int .u8 kd, .int .u64 n, .slice pv lv cv]) ∧ Frm (fun k => k = E ∨ sv.ownBlock = some k) w w' := by
  obtain ⟨ps, cs, rfl, hns, hcs, hps⟩ := owns_form hown
  obtain ⟨j0, hj, hj0, hj1, hj2⟩ := info_parts info64
  have hEw := hE.lt
  go_enter Yba.func61, Yba.ntmps61
  go_upto_region 1 with fail
  go_name_world W hW
  have hf : Frm (fun _ => False) w W := hW ▸ (Frm.refl _ w).alloc _
  have bX : Blk W w.heap.size #[.int .u8 kd, .int .u64 n, .slice pv lv cv] 82 := hW ▸ Blk.new w _ 82
  have hsz : W.heap.size = w.heap.size + 1 := by rw [← hW]; simp
  clear hW
  have hE1 := hf.blk hE id
  have own1 := hf.owns hown (fun _ _ => id)
  have c0 := (hE1.cell 0).trans (show _ = some (.slice ps m cs) from rfl)
  have x0 := (bX.cell 0).trans (show _ = some (.int .u8 kd) from rfl)
  have x1 := (bX.cell 1).trans (show _ = some (.int .u64 n) from rfl)
  have x2 := (bX.cell 2).trans (show _ = some (.slice pv lv cv) from rfl)
  have n1 : W.heap.size ≠ w.heap.size := by omega
  have n2 : W.heap.size ≠ E := by omega
  have n3 : E ≠ w.heap.size := by omega
  have hlt := owns_lt hown
  have kp : ∀ w1, Frm (fun k => (Value.slice ps m cs).ownBlock = some k) W w1 → (w1.cell? ⟨w.heap.size, 0, none⟩ = some (.int .u8 kd) ∧ w1.cell? ⟨w.heap.size, 1, none⟩ = some (.int .u64 n) ∧ w1.cell? ⟨w.heap.size, 2, none⟩ = some (.slice pv lv cv)) ∧ w1.cell? ⟨E, 0, none⟩ = some (.slice ps m cs) ∧ w1.frozen? ⟨E, 0, none⟩ = false := fun w1 hf1 => by
    have b1 := hf1.blk hE1 (fun h => by have := (hlt _ h).1; omega)
    have b2 := hf1.blk bX (fun h => by have := (hlt _ h).2; omega)
    exact ⟨⟨b2.cell 0, b2.cell 1, b2.cell 2⟩, b1.cell 0, b1.frozen 0⟩
  have hs4 : Src Yba.prog 4 25 (.slice (some ⟨w.heap.size + 1, 0, none⟩) 1 1) 1 [.int .i64 tg, .int .u8 kd, .int .u64 n, .slice pv lv cv] (W.alloc (.cells #[.int .i64 tg, .int .u8 kd, .int .u64 n, .slice pv lv cv] 64)).drew := by
    have h := Blk.new W #[.int .i64 tg, .int .u8 kd, .int .u64 n, .slice pv lv cv] 64
    rw [hsz] at h
    exact src_four (t := 64) Yba.underlying25 h (by intro u hu; simp at hu; rcases hu with rfl | rfl | rfl | rfl <;> rfl)
  rw [show Op.load 25 (Operand.tmp 9) = later (Op.load 25 (Operand.tmp 9)) from rfl]
  go_region_held3 (fun w' => w'.cell? ⟨w.heap.size, 0, none⟩ = some (.int .u8 kd) ∧ w'.cell? ⟨w.heap.size, 1, none⟩ = some (.int .u64 n) ∧ w'.cell? ⟨w.heap.size, 2, none⟩ = some (.slice pv lv cv)) (go_keep) (first
    | (refine step_append_src _ (by rfl) _ _ 25 25 (by rfl) B 64 j0 _ 4 48 Yba.underlying25 hj hj0 hj1 hj2 rfl (.slice ps m cs) _ _ (by rfl) (by exact own1.alloc _) _ (by rfl) 1 [.int .i64 tg, .int .u8 kd, .int .u64 n, .slice pv lv cv] hs4 (by omega) (by omega) (by simp; omega) ?_; intro v1 w1 own2 gw1 hat1; have g1 := ((Grew.refl (.slice ps m cs) W).alloc _).drew.trans (Grew.append gw1 hat1); obtain ⟨⟨k1, k2, k3⟩, k6, k7⟩ := (kp w1 g1.1); obtain ⟨p1, n1', rfl, _, _, _⟩ := owns_form own2))
  all_goals
    go_wp2_with fail
    go_end0
    refine ⟨rfl, _, (g1.1.blk hE1 (fun h => by have := (hlt _ h).1; omega)).same 0 _, (((Frm.refl (fun k => k = E) w1).setCell ⟨E, 0, none⟩ _ (fun _ => rfl)).owns own2 (fun k hk e => by have := (owns_lt own2 k hk).1; omega)), ?_⟩
    exact ((hf.mono (fun _ _ h => h.elim)).trans g1.1 (fun _ _ h => .inr h)).setCell _ _ (fun _ => .inl rfl)
end Go.Proofs.Ybulkaryo
