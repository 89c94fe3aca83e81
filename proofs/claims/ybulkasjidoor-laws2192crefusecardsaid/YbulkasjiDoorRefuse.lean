/-
  THE CONTRACT OF refuseRoomWaitersLocked over the memory that the law lays.
-/
import Derived.Test.YbulkasjiDoorSync
import Derived.Deep.RegionWith
namespace Go.Proofs.YbulkasjiDoor
open Go.RowKit

/-- The pointer to waiter j (B: the first new block). -/
def wp (B j : Nat) : Value := .pointer (some ⟨B + 3 + 2 * j, 0, none⟩)
/-- A waiter's cells: nothing queued, the error, the channel. -/
def waiter (e : Value) (c : Nat) : Array Value := #[.nilFunc, .pointer none, .nilFunc, .bool false, e, .chan (some c)]

/-- THE MEMORY OF THE LAW: two rows of n cells, n channels and n waiters, one behind the other, and the scheduler's cells. -/
structure Mem (w : World) (n : Nat) (r1 r2 : Nat → Value) (shut : Nat → Bool) (err : Nat → Value) (cs : Array Value) (W : World) : Prop where
  bel : Below w.heap.size w W
  size : w.heap.size + 3 + 2 * n ≤ W.heap.size
  ws : Blk W w.heap.size (row r1 n) 24
  keep : Blk W (w.heap.size + 1) (row r2 n) 24
  ch : ∀ j, j < n → W.heap[w.heap.size + 2 + 2 * j]? = some (.chan 0 #[] (shut j) 0 0 false)
  wt : ∀ j, j < n → Blk W (w.heap.size + 3 + 2 * j) (waiter (err j) (w.heap.size + 2 + 2 * j)) 34
  sc : Blk W (w.heap.size + 2 + 2 * n) cs 81

section
variable {w : World} {n : Nat} {r1 r2 : Nat → Value} {shut : Nat → Bool} {err : Nat → Value} {cs : Array Value} {W : World}
theorem Mem.alloc (h : Mem w n r1 r2 shut err cs W) (x : Obj) : Mem w n r1 r2 shut err cs (W.alloc x) where
  bel := h.bel.alloc h.bel.size x
  size := by rw [size_new]; exact Nat.le_succ_of_le h.size
  ws := h.ws.alloc x
  keep := h.keep.alloc x
  ch := fun j hj => heap_old _ _ (h.ch j hj)
  wt := fun j hj => (h.wt j hj).alloc x
  sc := h.sc.alloc x
theorem Mem.drewN (h : Mem w n r1 r2 shut err cs W) (k : Nat) : Mem w n r1 r2 shut err cs (W.drewN k) where
  bel := below_drewN h.bel k
  size := h.size
  ws := h.ws
  keep := h.keep
  ch := h.ch
  wt := h.wt
  sc := h.sc
theorem Mem.setWs (h : Mem w n r1 r2 shut err cs W) (i : Nat) (v : Value) (r : Nat → Value) (hr : r i = v) (hr' : ∀ j, j ≠ i → r j = r1 j) :
    Mem w n r r2 shut err cs (W.setCell ⟨w.heap.size, i, none⟩ v) where
  bel := h.bel.setCell (Nat.le_refl _) v
  size := by rw [World.size_setCell]; exact h.size
  ws := by have := h.ws.same i v; rw [row_set r1 r n i v hr hr'] at this; exact this
  keep := h.keep.other _ _ (by simp)
  ch := fun j hj => (heap_other _ _ _ (by simp; omega)).trans (h.ch j hj)
  wt := fun j hj => (h.wt j hj).other _ _ (by simp; omega)
  sc := h.sc.other _ _ (by simp; omega)
theorem Mem.setSc (h : Mem w n r1 r2 shut err cs W) (o : Nat) (v : Value) :
    Mem w n r1 r2 shut err (cs.setIfInBounds o v) (W.setCell ⟨w.heap.size + 2 + 2 * n, o, none⟩ v) where
  bel := h.bel.setCell (by simp; omega) v
  size := by rw [World.size_setCell]; exact h.size
  ws := h.ws.other _ _ (by simp; omega)
  keep := h.keep.other _ _ (by simp; omega)
  ch := fun j hj => (heap_other _ _ _ (by simp; omega)).trans (h.ch j hj)
  wt := fun j hj => (h.wt j hj).other _ _ (by simp; omega)
  sc := h.sc.same o v
theorem Mem.setErr (h : Mem w n r1 r2 shut err cs W) (i : Nat) (v : Value) (e : Nat → Value) (he : e i = v) (he' : ∀ j, j ≠ i → e j = err j) :
    Mem w n r1 r2 shut e cs (W.setCell ⟨w.heap.size + 3 + 2 * i, 4, none⟩ v) where
  bel := h.bel.setCell (by simp; omega) v
  size := by rw [World.size_setCell]; exact h.size
  ws := h.ws.other _ _ (by simp; omega)
  keep := h.keep.other _ _ (by simp; omega)
  ch := fun j hj => (heap_other _ _ _ (by simp; omega)).trans (h.ch j hj)
  wt := fun j hj => by
    by_cases e' : j = i
    · subst e'
      have := (h.wt j hj).same 4 v
      rw [he]
      exact this
    · rw [he' j e']
      exact (h.wt j hj).other _ _ (by simp; omega)
  sc := h.sc.other _ _ (by simp; omega)
theorem heap_chan_other (W : World) (c cap : Nat) (buf : Array Value) (cl : Bool) (s r : Nat) (tm : Bool) {i : Nat} (h : c ≠ i) : (W.setChan c cap buf cl s r tm).heap[i]? = W.heap[i]? := by
  simp [World.setChan, Array.getElem?_setIfInBounds_ne h]
theorem Mem.close (h : Mem w n r1 r2 shut err cs W) (i : Nat) (hi : i < n) (s : Nat → Bool) (hs : s i = true) (hs' : ∀ j, j ≠ i → s j = shut j) :
    Mem w n r1 r2 s err cs (W.setChan (w.heap.size + 2 + 2 * i) 0 #[] true 0 0 false) where
  bel := Conc.below_setChan h.bel (by omega) _ _ _ _ _ _
  size := by rw [Conc.size_setChan]; exact h.size
  ws := (heap_chan_other _ _ _ _ _ _ _ _ (by omega)).trans h.ws
  keep := (heap_chan_other _ _ _ _ _ _ _ _ (by omega)).trans h.keep
  ch := fun j hj => by
    by_cases e' : j = i
    · subst e'
      rw [hs]
      exact Conc.heap_setChan _ _ _ _ _ _ _ _ (by have := h.size; omega)
    · rw [hs' j e']
      exact (heap_chan_other _ _ _ _ _ _ _ _ (by omega)).trans (h.ch j hj)
  wt := fun j hj => (heap_chan_other _ _ _ _ _ _ _ _ (by omega)).trans (h.wt j hj)
  sc := (heap_chan_other _ _ _ _ _ _ _ _ (by omega)).trans h.sc
theorem Mem.congr {r1' : Nat → Value} {shut' : Nat → Bool} {err' : Nat → Value} (h : Mem w n r1 r2 shut err cs W) (h1 : ∀ j, j < n → r1 j = r1' j) (h2 : ∀ j, j < n → shut j = shut' j) (h3 : ∀ j, j < n → err j = err' j) :
    Mem w n r1' r2 shut' err' cs W where
  bel := h.bel
  size := h.size
  ws := by rw [← row_congr r1 r1' n h1]; exact h.ws
  keep := h.keep
  ch := fun j hj => by rw [← h2 j hj]; exact h.ch j hj
  wt := fun j hj => by rw [← h3 j hj]; exact h.wt j hj
  sc := h.sc
end

set_option maxRecDepth 100000 in
set_option maxHeartbeats 1000000 in
theorem refuse_ok (w : World) (n : Nat) (hn : n ≤ 1024) (r2 : Nat → Value) (cs : Array Value) (st : Int) (te : TypeId) (xe : Value) (W : World) (hw : 0 < w.heap.size) (hE : w.cell? ⟨0, 0, none⟩ = some (.iface te xe))
    (hM : Mem w n (wp w.heap.size) r2 (fun _ => false) (fun _ => .nilIface) cs W)
    (h109 : cs[109]? = some (.int .i32 st)) (h110 : cs[110]? = some (.slice (some ⟨w.heap.size, 0, none⟩) n n)) :
    Calls Ybad.prog 6 #[.pointer (some ⟨w.heap.size + 2 + 2 * n, 0, none⟩)] W fun e w' => e = .returned (.tuple #[]) ∧
      Mem w n (fun _ => .pointer none) r2 (fun _ => true) (fun _ => .iface te xe) ((cs.setIfInBounds 109 (.int .i32 (wrap32 (st + -(n : Int))))).setIfInBounds 110 (.slice (some ⟨w.heap.size, 0, none⟩) 0 n)) w' := by
  have c110 := (hM.sc.cell 110).trans h110
  go_enter Ybad.func6, Ybad.ntmps6
  go_wp2
  go_loopw [2, 3, 9] (fun _ _ i Wr => ∃ k : Nat, k ≤ n ∧ i = .int .i64 k ∧ Mem w n (fun j => if j < k then .pointer none else wp w.heap.size j) r2 (fun j => decide (j < k)) (fun j => if j < k then .iface te xe else .nilIface) cs Wr) (fun _ _ i _ => n - (intOf i).toNat)
  case atStart => exact ⟨0, Nat.zero_le _, rfl, by simpa using hM⟩
  case round =>
    obtain ⟨k, hk, rfl, hR⟩ := hrel
    by_cases hlt : k < n
    · have c1 : wr.cell? ⟨w.heap.size, k, none⟩ = some (.pointer (some ⟨w.heap.size + 3 + 2 * k, 0, none⟩)) := by rw [hR.ws.cell k, row_at _ _ _ hlt]; simp [wp]
      have c2 : wr.cell? ⟨0, 0, none⟩ = some (.iface te xe) := (hR.bel.cell (p := ⟨0, 0, none⟩) hw).trans hE
      have hwt := hR.wt k hlt
      simp only [Nat.lt_irrefl, if_false] at hwt
      have c3 : wr.cell? ⟨w.heap.size + 3 + 2 * k, 4, none⟩ = some .nilIface := hwt.cell 4
      have f3 := hwt.frozen 4
      have c4 : wr.cell? ⟨w.heap.size + 3 + 2 * k, 5, none⟩ = some (.chan (some (w.heap.size + 2 + 2 * k))) := hwt.cell 5
      have hM1 := hR.setErr k (.iface te xe) (fun j => if j < k + 1 then .iface te xe else .nilIface) (by simp) (fun j hj => by by_cases h : j < k <;> simp [h] <;> omega)
      have hch := hM1.ch k hlt
      simp only [Nat.lt_irrefl, decide_false] at hch
      have hcl : ∀ ats ty, (Builtin.close_ ats ty #[.chan (some (w.heap.size + 2 + 2 * k))]).run Ybad.prog (wr.setCell ⟨w.heap.size + 3 + 2 * k, 4, none⟩ (.iface te xe)) = .ok (.tuple #[]) ((wr.setCell ⟨w.heap.size + 3 + 2 * k, 4, none⟩ (.iface te xe)).setChan (w.heap.size + 2 + 2 * k) 0 #[] true 0 0 false) := fun ats ty => run_close_open (P := Ybad.prog) ats ty hch
      have hM2 := hM1.close k hlt (fun j => decide (j < k + 1)) (by simp) (fun j hj => by simp; omega)
      obtain ⟨W2, hW2⟩ : ∃ W2, W2 = (wr.setCell ⟨w.heap.size + 3 + 2 * k, 4, none⟩ (.iface te xe)).setChan (w.heap.size + 2 + 2 * k) 0 #[] true 0 0 false := ⟨_, rfl⟩
      rw [← hW2] at hcl hM2
      clear hW2 hM1 hwt hch
      have c5 := (hM2.sc.cell 110).trans h110
      have c6 : W2.cell? ⟨w.heap.size, k, none⟩ = some (.pointer (some ⟨w.heap.size + 3 + 2 * k, 0, none⟩)) := by rw [hM2.ws.cell k, row_at _ _ _ hlt]; simp [wp]
      have f6 := hM2.ws.frozen k
      go_wp2
      refine ⟨⟨k + 1, by omega, by go_num, hM2.setWs k (.pointer none) _ (by simp) (fun j hj => ?_)⟩, by simp [intOf]; omega⟩
      by_cases h : j < k
      · simp [h, Nat.lt_succ_of_lt h]
      · simp [h, show ¬ j < k + 1 by omega]
    · obtain rfl : k = n := by omega
      have hn' : (k : Int) ≤ 1024 := by omega
      have c5 := (hR.sc.cell 110).trans h110
      have c6 := (hR.sc.cell 109).trans h109
      have f6 := hR.sc.frozen 109
      have f5 := hR.sc.frozen 110
      go_wp2
      go_region_with (first
        | (go_at_call 11; refine (add_ok _ _ st _ _ ?_ ?_).mono ?_; exact c6; exact f6; rintro e w3 ⟨rfl, rfl⟩))
      all_goals
        go_wp2
        go_end0
        exact ⟨rfl, (((hR.setSc 109 _).setSc 110 _).drewN 1).congr (fun j hj => by simp [hj]) (fun j hj => by simp [hj]) (fun j hj => by simp [hj])⟩
end Go.Proofs.YbulkasjiDoor
