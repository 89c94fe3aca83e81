/-
  CONTRACTS OF THE ATOMICS AND THE LOCK on the road of LawS2192CRefuse, one goroutine.
-/
import Derived.Test.YbulkasjiDoorMem
import Derived.Laws.LoneSync
namespace Go.Proofs.YbulkasjiDoor
open Go.RowKit
/-- A pointer seen without its type: the same address. -/
theorem conv_ok {t : TypeId} (ht : Ybad.prog.underlying 92 = some (.pointer t)) (hsz : (Ybad.prog.info? t).map (fun i => decide (i.size = 0)) = some false) {a : Addr} {v : Value} {w : World} (hc : w.cell? a = some v) : (convert 92 45 (.pointer (some a))).run Ybad.prog w = .ok (.pointer (some a)) w := by
  obtain ⟨e, n, hsh, hlt, hsp⟩ := World.shape?_of_cell? hc
  obtain ⟨i, hi, hz0⟩ := Option.map_eq_some_iff.1 hsz
  have hz : i.size ≠ 0 := by simpa using hz0
  have hge : ¬ (n ≤ a.off) := by omega
  simp only [convert, Sem.run_bind, run_underlying ht, run_underlying Ybad.underlying45, Result.andThen_ok]
  change Sem.run Ybad.prog (underlying 92 >>= _) w = _
  simp [Conv.seenAt, viewAt, cellsIn, sizeOf, typeInfo, run_underlying ht, run_underlying Ybad.underlying45, hi, hz, hsh, hge, Result.andThen]
theorem disable (w : World) : (callFunc 14 #[]).run Ybad.prog w = .ok (.value (.tuple #[])) w := run_call_mark0 Ybad.func14 (by kernel_rfl) (by kernel_rfl) (by kernel_rfl) .disable (by kernel_rfl) w
theorem enable (w : World) : (callFunc 16 #[]).run Ybad.prog w = .ok (.value (.tuple #[])) w := run_call_mark0 Ybad.func16 (by kernel_rfl) (by kernel_rfl) (by kernel_rfl) .enable (by kernel_rfl) w
theorem acquire (a : Addr) (w : World) : (callFunc 17 #[.pointer (some a)]).run Ybad.prog w = .ok (.value (.tuple #[])) w := run_call_marked Ybad.func17 (by kernel_rfl) (by kernel_rfl) (by kernel_rfl) .acquire (by kernel_rfl) a w
theorem releaseMerge (a : Addr) (w : World) : (callFunc 20 #[.pointer (some a)]).run Ybad.prog w = .ok (.value (.tuple #[])) w := run_call_marked Ybad.func20 (by kernel_rfl) (by kernel_rfl) (by kernel_rfl) .releaseMerge (by kernel_rfl) a w
set_option maxRecDepth 100000 in
set_option maxHeartbeats 400000 in
theorem store_ok (b o : Nat) (x v : Int) (w : World) (hc : w.cell? ⟨b, o, none⟩ = some (.int .i32 x)) (hf : w.frozen? ⟨b, o, none⟩ = false) :
    Calls Ybad.prog 4 #[.pointer (some ⟨b, o, none⟩), .int .i32 v] w fun e w' => e = .returned (.tuple #[]) ∧ w' = w.setCell ⟨b, o, none⟩ (.int .i32 v) := by
  have hst := run_call_store (P := Ybad.prog) Ybad.func9 (by kernel_rfl) (by kernel_rfl) (by kernel_rfl) (by kernel_rfl) (k := .i32) (y := v) hc hf
  go_enter Ybad.func4, Ybad.ntmps4
  go_wp2
  go_end0
  exact ⟨rfl, rfl⟩
set_option maxRecDepth 100000 in
set_option maxHeartbeats 400000 in
theorem load_ok (b o : Nat) (x : Int) (w : World) (hc : w.cell? ⟨b, o, none⟩ = some (.int .i32 x)) :
    Calls Ybad.prog 8 #[.pointer (some ⟨b, o, none⟩)] w fun e w' => e = .returned (.int .i32 x) ∧ w' = w := by
  have hl := run_call_load (P := Ybad.prog) Ybad.func13 (by kernel_rfl) (by kernel_rfl) (by kernel_rfl) .i32 (by kernel_rfl) hc
  go_enter Ybad.func8, Ybad.ntmps8
  go_wp2
  go_ret
  exact ⟨rfl, rfl⟩
set_option maxRecDepth 100000 in
set_option maxHeartbeats 400000 in
theorem add_ok (b o : Nat) (x v : Int) (w : World) (hc : w.cell? ⟨b, o, none⟩ = some (.int .i32 x)) (hf : w.frozen? ⟨b, o, none⟩ = false) :
    Calls Ybad.prog 11 #[.pointer (some ⟨b, o, none⟩), .int .i32 v] w fun e w' => e = .returned (.int .i32 (wrap32 (x + v))) ∧ w' = w.setCell ⟨b, o, none⟩ (.int .i32 (wrap32 (x + v))) := by
  have hadd := run_call_add (P := Ybad.prog) Ybad.func19 (by kernel_rfl) (by kernel_rfl) (by kernel_rfl) .i32 (by kernel_rfl) (y := v) (s := wrap32 (x + v)) hc hf (by simp [go_sem, wrap32, IntKind.wrap_i32])
  go_enter Ybad.func11, Ybad.ntmps11
  go_wp2
  go_ret
  exact ⟨rfl, rfl⟩
set_option maxRecDepth 100000 in
set_option maxHeartbeats 400000 in
theorem lock_ok (b o : Nat) (w : World) (hc : w.cell? ⟨b, o, none⟩ = some (.int .i32 0)) (hf : w.frozen? ⟨b, o, none⟩ = false) :
    Calls Ybad.prog 5 #[.pointer (some ⟨b, o, none⟩)] w fun e w' => e = .returned (.tuple #[]) ∧ w' = w.setCell ⟨b, o, none⟩ (.int .i32 1) := by
  have hd := disable
  have he := enable
  have ha := acquire
  have hcas := run_call_cas_hit (P := Ybad.prog) Ybad.func15 (by kernel_rfl) (by kernel_rfl) (by kernel_rfl) .i32 (by kernel_rfl) (y := 1) hc hf
  have hc' : (w.setCell ⟨b, o, none⟩ (.int .i32 1)).cell? ⟨b, o, none⟩ = some (.int .i32 1) := World.cell?_setCell_same w _ _ hc
  have hcv := conv_ok Ybad.underlying92 (by kernel_rfl) hc'
  go_enter Ybad.func5, Ybad.ntmps5
  go_wp2
  first | go_end0 | (simp only [Exit.inBlock, Exit.then]; refine bodyPost_ret (results_none rfl _ _ _) rfl ?_) | refine bodyPost_ret (results_none rfl _ _ _) rfl ?_
  go_wp2
  go_end0
  exact ⟨rfl, rfl⟩
set_option maxRecDepth 100000 in
set_option maxHeartbeats 400000 in
theorem unlock_ok (b o : Nat) (w : World) (hc : w.cell? ⟨b, o, none⟩ = some (.int .i32 1)) (hf : w.frozen? ⟨b, o, none⟩ = false) :
    Calls Ybad.prog 7 #[.pointer (some ⟨b, o, none⟩)] w fun e w' => e = .returned (.tuple #[]) ∧ w' = w.setCell ⟨b, o, none⟩ (.int .i32 0) := by
  have hd := disable
  have he := enable
  have hr := releaseMerge
  have hadd := run_call_add (P := Ybad.prog) Ybad.func19 (by kernel_rfl) (by kernel_rfl) (by kernel_rfl) .i32 (by kernel_rfl) (y := -1) (s := 0) hc hf (by simp [go_sem]; rfl)
  have hcv := conv_ok Ybad.underlying92 (by kernel_rfl) hc
  go_enter Ybad.func7, Ybad.ntmps7
  go_wp2
  go_end0
  go_wp2
  go_end0
  exact ⟨rfl, rfl⟩
end Go.Proofs.YbulkasjiDoor
