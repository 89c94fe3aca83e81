/-
  THE WALK OF LawS2192CRefuse: it returns true, and nothing that was there has turned.
-/
import Derived.Test.YbulkasjiDoorSelect
namespace Go.Proofs.YbulkasjiDoor
open Go.RowKit
theorem Ybad.info24 : (Ybad.prog.info? 24).map (fun i => (i.zero, i.size, i.bytes)) = some (some (.pointer none), 1, 8) := by kernel_rfl
theorem chan_run (w : World) : (Instr.makeChan 25 (.int .i64 0)).run Ybad.prog w = .ok (.chan (some w.heap.size)) (w.alloc (.chan 0 #[] false 0 0 false)) := by kernel_rfl
-- The cells of a zero Scheduler.
theorem zeroS : ∃ z : Array Value, (∀ w, (zeroValue 81).run Ybad.prog w = .ok (.agg z) w) ∧ z.size = 112 ∧ z[82]? = some (.int .i32 0) ∧ z[109]? = some (.int .i32 0) :=
  ⟨(((Ybad.prog.info? 81).bind (·.zero)).map Value.cells).getD #[], fun w => by kernel_rfl, by kernel_rfl, by kernel_rfl, by kernel_rfl⟩

/-- The rows of pointers behind i rounds. -/
def rowOf (B i : Nat) : Nat → Value := fun j => if j < i then wp B j else .pointer none

structure Built (w : World) (n i : Nat) (W : World) : Prop where
  bel : Below w.heap.size w W
  size : W.heap.size = w.heap.size + 2 + 2 * i
  ws : Blk W w.heap.size (row (rowOf w.heap.size i) n) 24
  keep : Blk W (w.heap.size + 1) (row (rowOf w.heap.size i) n) 24
  ch : ∀ j, j < i → W.heap[w.heap.size + 2 + 2 * j]? = some (.chan 0 #[] false 0 0 false)
  wt : ∀ j, j < i → Blk W (w.heap.size + 3 + 2 * j) (waiter .nilIface (w.heap.size + 2 + 2 * j)) 34

theorem Built.start (w : World) (n : Nat) : Built w n 0 ((w.alloc (.cells (madeCells #[.pointer none] n) 24)).alloc (.cells (madeCells #[.pointer none] n) 24)) where
  bel := ((Below.refl _ _).alloc (Nat.le_refl _) _).alloc (by rw [size_new]; omega) _
  size := by rw [size_new, size_new]
  ws := by
    have h := (Blk.new w (madeCells #[.pointer none] n) 24).alloc (.cells (madeCells #[.pointer none] n) 24)
    rw [made_row] at h ⊢
    exact h
  keep := by
    have h := Blk.new (w.alloc (.cells (madeCells #[.pointer none] n) 24)) (madeCells #[.pointer none] n) 24
    rw [size_new] at h
    rw [made_row] at h ⊢
    exact h
  ch := fun j hj => absurd hj (by omega)
  wt := fun j hj => absurd hj (by omega)

theorem rowOf_same (B i : Nat) : rowOf B (i + 1) i = wp B i := by simp [rowOf]
theorem rowOf_other (B i j : Nat) (h : j ≠ i) : rowOf B (i + 1) j = rowOf B i j := by
  unfold rowOf
  by_cases h' : j < i
  · simp [h', Nat.lt_succ_of_lt h']
  · simp [h', show ¬ j < i + 1 by omega]

theorem Built.step {w W : World} {n i : Nat} (h : Built w n i W) :
    Built w n (i + 1) ((((W.setCell ⟨w.heap.size, i, none⟩ (.pointer (some ⟨W.heap.size + 1, 0, none⟩))).setCell ⟨w.heap.size + 1, i, none⟩ (.pointer (some ⟨W.heap.size + 1, 0, none⟩))).alloc (.chan 0 #[] false 0 0 false)).alloc
      (.cells #[.nilFunc, .pointer none, .nilFunc, .bool false, .nilIface, .chan (some W.heap.size)] 34)) := by
  have hp : (Value.pointer (some ⟨W.heap.size + 1, 0, none⟩)) = wp w.heap.size i := by
    unfold wp
    rw [h.size]
    congr 3
    omega
  rw [hp]
  have hs := h.size
  obtain ⟨W1, hW1⟩ : ∃ W1, W1 = (W.setCell ⟨w.heap.size, i, none⟩ (wp w.heap.size i)).setCell ⟨w.heap.size + 1, i, none⟩ (wp w.heap.size i) := ⟨_, rfl⟩
  have hs1 : W1.heap.size = W.heap.size := by rw [hW1]; simp
  have hb1 : Below w.heap.size w W1 := by rw [hW1]; exact (h.bel.setCell (Nat.le_refl _) _).setCell (Nat.le_succ _) _
  have hws : Blk W1 w.heap.size (row (rowOf w.heap.size (i + 1)) n) 24 := by
    have h1 := (h.ws.same i (wp w.heap.size i)).other ⟨w.heap.size + 1, i, none⟩ (wp w.heap.size i) (by simp)
    rw [row_set _ _ n i _ (rowOf_same _ i) (rowOf_other _ i)] at h1
    rw [hW1]
    exact h1
  have hkp : Blk W1 (w.heap.size + 1) (row (rowOf w.heap.size (i + 1)) n) 24 := by
    have h1 := (h.keep.other ⟨w.heap.size, i, none⟩ (wp w.heap.size i) (by simp)).same i (wp w.heap.size i)
    rw [row_set _ _ n i _ (rowOf_same _ i) (rowOf_other _ i)] at h1
    rw [hW1]
    exact h1
  have hold : ∀ j o, w.heap.size + 2 ≤ j → W.heap[j]? = some o → W1.heap[j]? = some o := by
    intro j o hj ho
    rw [hW1, heap_other _ _ _ (by simp; omega), heap_other _ _ _ (by simp; omega)]
    exact ho
  rw [← hW1]
  exact {
    bel := (hb1.alloc (by omega) _).alloc (by rw [size_new]; omega) _
    size := by rw [size_new, size_new, hs1, hs]; omega
    ws := (hws.alloc _).alloc _
    keep := (hkp.alloc _).alloc _
    ch := fun j hj => by
      by_cases e : j = i
      · subst e
        have hn := heap_old (W1.alloc (.chan 0 #[] false 0 0 false)) (.cells #[.nilFunc, .pointer none, .nilFunc, .bool false, .nilIface, .chan (some W.heap.size)] 34) (heap_new W1 (.chan 0 #[] false 0 0 false))
        rw [hs1, hs] at hn
        rw [hs]
        exact hn
      · exact heap_old _ _ (heap_old _ _ (hold _ _ (by omega) (h.ch j (by omega))))
    wt := fun j hj => by
      by_cases e : j = i
      · subst e
        have hn := Blk.new (W1.alloc (.chan 0 #[] false 0 0 false)) #[.nilFunc, .pointer none, .nilFunc, .bool false, .nilIface, .chan (some W.heap.size)] 34
        rw [size_new, hs1, hs] at hn
        rw [hs, show w.heap.size + 3 + 2 * j = w.heap.size + 2 + 2 * j + 1 by omega]
        exact hn
      · exact heap_old _ _ (heap_old _ _ (hold _ _ (by omega) (h.wt j (by omega)))) }

theorem Built.mem {w W : World} {n : Nat} (h : Built w n n W) (cs : Array Value) : Mem w n (wp w.heap.size) (wp w.heap.size) (fun _ => false) (fun _ => .nilIface) cs (W.alloc (.cells cs 81)) where
  bel := h.bel.alloc h.bel.size _
  size := by rw [size_new, h.size]; omega
  ws := by rw [row_congr (wp w.heap.size) (rowOf w.heap.size n) n (fun j hj => by simp [rowOf, hj])]; exact h.ws.alloc _
  keep := by rw [row_congr (wp w.heap.size) (rowOf w.heap.size n) n (fun j hj => by simp [rowOf, hj])]; exact h.keep.alloc _
  ch := fun j hj => heap_old _ _ (h.ch j hj)
  wt := fun j hj => (h.wt j hj).alloc _
  sc := by have hn := Blk.new W cs 81; rw [h.size] at hn; exact hn


-- A frame of 120 slots, written out.
set_option maxRecDepth 100000 in
theorem lit120 (f : Nat → Value) : ((List.range 120).map f).toArray = #[f 0, f 1, f 2, f 3, f 4, f 5, f 6, f 7, f 8, f 9, f 10, f 11, f 12, f 13, f 14, f 15, f 16, f 17, f 18, f 19, f 20, f 21, f 22, f 23, f 24, f 25, f 26, f 27, f 28, f 29, f 30, f 31, f 32, f 33, f 34, f 35, f 36, f 37, f 38, f 39, f 40, f 41, f 42, f 43, f 44, f 45, f 46, f 47, f 48, f 49, f 50, f 51, f 52, f 53, f 54, f 55, f 56, f 57, f 58, f 59, f 60, f 61, f 62, f 63, f 64, f 65, f 66, f 67, f 68, f 69, f 70, f 71, f 72, f 73, f 74, f 75, f 76, f 77, f 78, f 79, f 80, f 81, f 82, f 83, f 84, f 85, f 86, f 87, f 88, f 89, f 90, f 91, f 92, f 93, f 94, f 95, f 96, f 97, f 98, f 99, f 100, f 101, f 102, f 103, f 104, f 105, f 106, f 107, f 108, f 109, f 110, f 111, f 112, f 113, f 114, f 115, f 116, f 117, f 118, f 119] := by kernel_rfl
set_option maxRecDepth 100000 in
theorem frame120 (tm : Array Value) (hs : tm.size = 120) : ∃ f : Nat → Value, tm = #[f 0, f 1, f 2, f 3, f 4, f 5, f 6, f 7, f 8, f 9, f 10, f 11, f 12, f 13, f 14, f 15, f 16, f 17, f 18, f 19, f 20, f 21, f 22, f 23, f 24, f 25, f 26, f 27, f 28, f 29, f 30, f 31, f 32, f 33, f 34, f 35, f 36, f 37, f 38, f 39, f 40, f 41, f 42, f 43, f 44, f 45, f 46, f 47, f 48, f 49, f 50, f 51, f 52, f 53, f 54, f 55, f 56, f 57, f 58, f 59, f 60, f 61, f 62, f 63, f 64, f 65, f 66, f 67, f 68, f 69, f 70, f 71, f 72, f 73, f 74, f 75, f 76, f 77, f 78, f 79, f 80, f 81, f 82, f 83, f 84, f 85, f 86, f 87, f 88, f 89, f 90, f 91, f 92, f 93, f 94, f 95, f 96, f 97, f 98, f 99, f 100, f 101, f 102, f 103, f 104, f 105, f 106, f 107, f 108, f 109, f 110, f 111, f 112, f 113, f 114, f 115, f 116, f 117, f 118, f 119] := by
  refine ⟨fun j => tm.getD j undef, ?_⟩
  rw [← lit120 (fun j => tm.getD j undef)]
  apply Array.ext
  · simp [hs]
  · intro j h1 h2
    simp only [List.getElem_toArray, List.getElem_map, List.getElem_range]
    simp [h1]

set_option maxRecDepth 100000 in
set_option maxHeartbeats 1000000 in
theorem law_small (n : Nat) (st : Int) (cl : Bool) (w : World) (hn : n ≤ 1024) (te : TypeId) (xe : Value) (hw : 0 < w.heap.size) (hE : w.cell? ⟨0, 0, none⟩ = some (.iface te xe))
    (hq : ∀ w, (binOp .neq 32 (.iface te xe) (.iface te xe)).run Ybad.prog w = .ok (.bool false) w) :
    Calls Ybad.prog 3 #[.int .u16 n, .int .i32 st, .bool cl] w fun e w' => e = .returned (.bool true) ∧ Below w.heap.size w w' := by
  have hmk := fun w => run_make_row' (P := Ybad.prog) 23 24 (.pointer none) 8 Ybad.underlying23 Ybad.info24 rfl .i64 .i64 n (by omega) (by omega) w
  have hch := chan_run
  have hn' : (n : Int) ≤ 1024 := by omega
  refine calls_of_wpAt Ybad.func3 rfl fun b hb => ?_
  simp only [Ybad.ntmps3, List.size_toArray, List.length_cons, List.length_nil, Nat.reduceAdd, Nat.reduceSub, Array.replicate_succ, Array.replicate_zero, List.push_toArray, List.append_toArray, List.nil_append, List.cons_append]
  refine WpAt.seqWp ?_
  go_wp2
  refine WpAt.seqWp ?_
  go_wp2
  refine WpAt.seqWp ?_
  go_wp2
  refine WpAt.seqWp ?_
  go_wp2
  refine WpAt.seqWp ?_
  go_wp2
  refine WpAt.seqWp ?_
  go_wp2
  go_loopw [10] (fun i W => ∃ k : Nat, k ≤ n ∧ i = .int .i64 k ∧ Built w n k W) (fun i _ => n - (intOf i).toNat)
  case atStart => exact ⟨0, Nat.zero_le _, rfl, Built.start w n⟩
  case round =>
    obtain ⟨k, hk, rfl, hB⟩ := hrel
    by_cases hlt : k < n
    · have c1 := (hB.ws.cell k).trans (row_at _ _ _ hlt)
      have c2 := (hB.keep.cell k).trans (row_at _ _ _ hlt)
      have f1 := hB.ws.frozen k
      have f2 := hB.keep.frozen k
      have hs1 := hB.ws.lt
      have hs2 := hB.keep.lt
      go_wp2
      exact ⟨⟨k + 1, by omega, by go_num, hB.step⟩, by simp [intOf]; omega⟩
    · obtain rfl : k = n := by omega
      go_wp2
      clear hmk hch
      obtain ⟨z, hz, hzs, hz82, hz109⟩ := zeroS
      have hsz := hB.size
      refine WpAt.seqWp ?_
      go_wp2
      have hM := hB.mem ((z.setIfInBounds 94 (.bool cl)).setIfInBounds 110 (.slice (some ⟨w.heap.size, 0, none⟩) k k))
      have h82 : ((z.setIfInBounds 94 (.bool cl)).setIfInBounds 110 (.slice (some ⟨w.heap.size, 0, none⟩) k k))[82]? = some (.int .i32 0) := by simp [hz82]
      have h109 : ((z.setIfInBounds 94 (.bool cl)).setIfInBounds 110 (.slice (some ⟨w.heap.size, 0, none⟩) k k))[109]? = some (.int .i32 0) := by simp [hz109]
      have h110 : ((z.setIfInBounds 94 (.bool cl)).setIfInBounds 110 (.slice (some ⟨w.heap.size, 0, none⟩) k k))[110]? = some (.slice (some ⟨w.heap.size, 0, none⟩) k k) := by simp [hzs]
      have h94 : ((z.setIfInBounds 94 (.bool cl)).setIfInBounds 110 (.slice (some ⟨w.heap.size, 0, none⟩) k k))[94]? = some (.bool cl) := by simp [hzs]
      have hcz : ((z.setIfInBounds 94 (.bool cl)).setIfInBounds 110 (.slice (some ⟨w.heap.size, 0, none⟩) k k)).size = 112 := by simp [hzs]
      generalize ((z.setIfInBounds 94 (.bool cl)).setIfInBounds 110 (.slice (some ⟨w.heap.size, 0, none⟩) k k)) = cs at hM h82 h109 h110 h94 hcz ⊢
      generalize wr.alloc (.cells cs 81) = W1 at hM ⊢
      clear hB hsz hz hzs hz82 hz109 z
      -- s.roomWaiting.Store(start)
      refine WpAt.seqWp ?_
      go_wp2_with fail
      refine (store_ok _ _ 0 _ _ ((hM.sc.cell 109).trans h109) (hM.sc.frozen 109)).mono ?_
      rintro e w2 ⟨rfl, rfl⟩
      have hM2 := hM.setSc 109 (.int .i32 st)
      generalize W1.setCell ⟨w.heap.size + 2 + 2 * k, 109, none⟩ (.int .i32 st) = W2 at hM2 ⊢
      clear hM
      go_wp2
      -- s.mu.Lock()
      refine WpAt.seqWp ?_
      go_wp2_with fail
      refine (lock_ok _ _ _ ((hM2.sc.cell 82).trans (by simp [h82])) (hM2.sc.frozen 82)).mono ?_
      rintro e w2 ⟨rfl, rfl⟩
      have hM3 := hM2.setSc 82 (.int .i32 1)
      generalize W2.setCell ⟨w.heap.size + 2 + 2 * k, 82, none⟩ (.int .i32 1) = W3 at hM3 ⊢
      clear hM2
      go_wp2
      -- refuseRoomWaitersLocked
      refine WpAt.seqWp ?_
      go_wp2_with fail
      refine (refuse_ok w k hn (wp w.heap.size) _ st te xe W3 hw hE hM3 (by simp [hcz]) (by simp [h110])).mono ?_
      rintro e W4 ⟨rfl, hM4⟩
      clear hM3
      go_wp2
      -- s.mu.Unlock()
      refine WpAt.seqWp ?_
      go_wp2_with fail
      refine (unlock_ok _ _ _ ((hM4.sc.cell 82).trans (by simp [hcz])) (hM4.sc.frozen 82)).mono ?_
      rintro e w2 ⟨rfl, rfl⟩
      have hM5 := hM4.setSc 82 (.int .i32 0)
      generalize W4.setCell ⟨w.heap.size + 2 + 2 * k, 82, none⟩ (.int .i32 0) = W5 at hM5 ⊢
      clear hM4
      have d109 := hM5.sc.cell 109
      have d110 := hM5.sc.cell 110
      simp [hcz] at d109 d110
      have d94 : W5.cell? ⟨w.heap.size + 2 + 2 * k, 94, none⟩ = some (.bool cl) := by
        rw [hM5.sc.cell 94, Array.getElem?_setIfInBounds_ne (by decide), Array.getElem?_setIfInBounds_ne (by decide), Array.getElem?_setIfInBounds_ne (by decide), Array.getElem?_setIfInBounds_ne (by decide), Array.getElem?_setIfInBounds_ne (by decide)]
        exact h94
      have hne : (wrap32 (st + -(k : Int)) != wrap32 (st - (k : Int))) = false := by rw [Int.sub_eq_add_neg]; simp
      generalize (((((cs.setIfInBounds 109 (Value.int IntKind.i32 st)).setIfInBounds 82 (Value.int IntKind.i32 1)).setIfInBounds 109 (Value.int IntKind.i32 (wrap32 (st + -(k : Int))))).setIfInBounds 110 (Value.slice (some { block := w.heap.size, off := 0 }) 0 k)).setIfInBounds 82 (Value.int IntKind.i32 0)) = cs5 at hM5
      go_wp2
      -- the three looks at the scheduler
      refine WpAt.seqWp ?_
      go_wp2
      refine WpAt.seqWp ?_
      go_wp2_with fail
      refine (load_ok _ _ _ _ d109).mono ?_
      rintro e w2 ⟨rfl, rfl⟩
      go_wp2
      refine WpAt.seqWp ?_
      go_wp2
      clear d109 d110 d94 h82 h109 h110 h94 hcz hne
      -- the look at the waiters
      refine WpAt.seq (WpAt.seqWp ?_)
      go_wp2
      refine WpAt.block (WpAt.loop (fun a W => ∃ i : Nat, i ≤ k ∧ a.defers = [] ∧ a.tmps.size = 120 ∧ a.tmps[7]? = some (.int .i64 k) ∧ a.tmps[8]? = some (.slice (some ⟨w.heap.size, 0, none⟩) k k) ∧ a.tmps[9]? = some (.slice (some ⟨w.heap.size + 1, 0, none⟩) k k) ∧ a.tmps[13]? = some (.int .i64 i) ∧
        Mem w k (fun _ => .pointer none) (wp w.heap.size) (fun _ => true) (fun _ => .iface te xe) cs5 W) (fun a _ => k - (intOf (a.tmps.getD 13 undef)).toNat) ⟨0, Nat.zero_le _, rfl, rfl, rfl, rfl, rfl, rfl, hM5⟩ ?_)
      clear hM5
      rintro ⟨tm, df⟩ W ⟨i, hi, rfl, hs, s7, s8, s9, s13, hM⟩
      simp only at hs s7 s8 s9 s13
      obtain ⟨f, rfl⟩ := frame120 tm hs
      simp only [List.getElem?_toArray, List.getElem?_cons_succ, List.getElem?_cons_zero, Option.some.injEq] at s7 s8 s9 s13
      clear hs
      by_cases hlt : i < k
      · have c1 : W.cell? ⟨w.heap.size, i, none⟩ = some (.pointer none) := (hM.ws.cell i).trans (row_at _ _ _ hlt)
        have c2 : W.cell? ⟨w.heap.size + 1, i, none⟩ = some (.pointer (some ⟨w.heap.size + 3 + 2 * i, 0, none⟩)) := (hM.keep.cell i).trans (row_at _ _ _ hlt)
        have c3 : W.cell? ⟨w.heap.size + 3 + 2 * i, 4, none⟩ = some (.iface te xe) := (hM.wt i hlt).cell 4
        have c4 : W.cell? ⟨w.heap.size + 3 + 2 * i, 5, none⟩ = some (.chan (some (w.heap.size + 2 + 2 * i))) := (hM.wt i hlt).cell 5
        have c5 : W.cell? ⟨0, 0, none⟩ = some (.iface te xe) := (hM.bel.cell (p := ⟨0, 0, none⟩) hw).trans hE
        have hch := hM.ch i hlt
        refine WpAt.seqWp ?_
        go_wp2
        refine WpAt.seq (WpAt.block ?_)
        refine WpAt.seqWp ?_
        go_wp2
        refine WpAt.seqWp ?_
        go_wp2
        refine WpAt.seqWp ?_
        go_wp2
        go_quiet (fail)
        go_wp2
        refine WpAt.seqWp ?_
        go_wp2
        refine WpAt.seq ?_
        refine WpAt.selectShut (c := w.heap.size + 2 + 2 * i) (z := .agg #[]) (cap := 0) (s := 0) (r := 0) (tm := false) hb rfl rfl rfl ?_ hch ?_
        · kernel_rfl
        go_wp2
        refine WpAt.of ?_
        go_wp2
        refine WpAt.of ?_
        go_wp2
        refine ⟨⟨i + 1, by omega, trivial, rfl, rfl, rfl, rfl, congrArg some (show Value.int .i64 ((i : Int) + 1) = .int .i64 ((i + 1 : Nat) : Int) by go_num), (hM.drewN nq).alloc _⟩, ?_⟩
        show k - (intOf (.int .i64 ((i : Int) + 1))).toNat < k - (intOf (f 13)).toNat
        rw [s13]
        simp [intOf]
        omega
      · refine WpAt.seqWp ?_
        go_wp2
        refine WpAt.of ?_
        go_wp2
        go_ret
        exact ⟨rfl, hM.bel⟩

set_option maxHeartbeats 400000 in
theorem law_big (n : Nat) (st : Int) (cl : Bool) (w : World) (hn : 1024 < n) :
    Calls Ybad.prog 3 #[.int .u16 n, .int .i32 st, .bool cl] w fun e w' => e = .returned (.bool true) ∧ Below w.heap.size w w' := by
  have hn' : (1024 : Int) < (n : Int) := by omega
  go_enter Ybad.func3, Ybad.ntmps3
  go_wp2
  go_ret
  exact ⟨rfl, Below.refl _ _⟩

end Go.Proofs.YbulkasjiDoor
