/-
  zzs2172bbuild.
-/
import Derived.Test.YbulkaryoFmtBlt
namespace Go.Proofs.YbulkaryoFmt
open Go.RowKit
attribute [local go_sem] later

theorem info51 : (Ybaf.prog.info? 51).map (fun i => (i.zero, i.size)) = some (some (.agg zero51), 145) := by kernel_rfl
theorem run_zero51 (w : World) : (zeroValue 51).run Ybaf.prog w = .ok (.agg zero51) w := by
  obtain ⟨i, hi, hzz⟩ := Option.map_eq_some_iff.1 info51
  simp only [Prod.mk.injEq] at hzz
  simp [zeroValue, typeInfo, hi, hzz.1, go_sem]
theorem info61 : (Ybaf.prog.info? 61).map (fun i => (i.zero, i.size, i.bytes)) = some (some (.pointer none), 1, 8) := by kernel_rfl
theorem info52 : (Ybaf.prog.info? 52).map (fun i => (i.zero, i.size, i.bytes)) = some (some (.slice none 0 0), 1, 24) := by kernel_rfl
theorem info27 : (Ybaf.prog.info? 27).map (fun i => (i.zero, i.size, i.bytes)) = some (some (.slice none 0 0), 1, 24) := by kernel_rfl
theorem info24 : (Ybaf.prog.info? 24).map (fun i => (i.zero, i.size, i.bytes)) = some (some (.slice none 0 0), 1, 24) := by kernel_rfl
theorem info4 : (Ybaf.prog.info? 4).map (fun i => (i.zero, i.size, i.bytes)) = some (some (.bool false), 1, 1) := by kernel_rfl
theorem info28 : (Ybaf.prog.info? 28).map (fun i => (i.zero, i.size, i.bytes)) = some (some (.int .i64 0), 1, 8) := by kernel_rfl

/-- The simulation as it is made first. -/
structure Raw (w : World) (n S MB LB BB : Nat) (w' : World) : Prop where
  s : Blk w' S (simCells n MB LB BB) 51
  m : Blk w' MB (madeCells #[.pointer none] n) 61
  l : Blk w' LB (madeCells #[.slice none 0 0] n) 52
  b : Blk w' BB (madeCells #[.slice none 0 0] n) 27
  low : w.heap.size ≤ S ∧ w.heap.size ≤ MB ∧ w.heap.size ≤ LB ∧ w.heap.size ≤ BB
  frm : Frm (fun _ => False) w w'

theorem four (W : World) (o1 o2 o3 o4 : Obj) : let w4 := ((((W.alloc o1).alloc o2).alloc o3).alloc o4).drew
    w4.heap[W.heap.size]? = some o1 ∧ w4.heap[W.heap.size + 1]? = some o2 ∧ w4.heap[W.heap.size + 1 + 1]? = some o3 ∧ w4.heap[W.heap.size + 1 + 1 + 1]? = some o4 ∧ Frm (fun _ => False) W w4 := by
  have e1 := heap_new W o1
  have e2 := heap_new (W.alloc o1) o2
  have e3 := heap_new ((W.alloc o1).alloc o2) o3
  have e4 := heap_new (((W.alloc o1).alloc o2).alloc o3) o4
  have s1 := size_new W o1
  have s2 := size_new (W.alloc o1) o2
  have s3 := size_new ((W.alloc o1).alloc o2) o3
  rw [s1] at e2
  rw [s2, s1] at e3
  rw [s3, s2, s1] at e4
  have k : ∀ (w : World) (o x : Obj) (b : Nat), w.heap[b]? = some x → (w.alloc o).heap[b]? = some x := fun w o x b h => (Below.heap_alloc w o b (lt_of_heap h)).trans h
  exact ⟨k _ _ _ _ (k _ _ _ _ (k _ _ _ _ e1)), k _ _ _ _ (k _ _ _ _ e2), k _ _ _ _ e3, e4, ((((Frm.refl _ W).alloc _).alloc _).alloc _).alloc _ |>.drew⟩

theorem put_new (W : World) {b : Nat} {cs ns : Array Value} {t u : TypeId} (h : Blk W b cs t) (k : Nat) (v : Value) : Blk ((W.setCell ⟨b, k, none⟩ v).alloc (.cells ns u)).drew b (cs.setIfInBounds k v) t ∧ Blk ((W.setCell ⟨b, k, none⟩ v).alloc (.cells ns u)).drew W.heap.size ns u ∧ Frm (fun j => j = b) W ((W.setCell ⟨b, k, none⟩ v).alloc (.cells ns u)).drew := by
  have hb := Blk.new (W.setCell ⟨b, k, none⟩ v) ns u
  rw [World.size_setCell] at hb
  exact ⟨((Frm.refl (fun _ => False) _).alloc _).blk (h.same k _) id, hb, (((Frm.refl (fun j => j = b) W).setCell ⟨b, k, none⟩ _ (fun _ => rfl)).alloc _).drew⟩

def namesC : Array Value := #[.string ⟨#[97]⟩, .string ⟨#[98]⟩, .string ⟨#[99]⟩, .string ⟨#[100]⟩]
/-- What loop 1 has laid for the first k members. -/
structure Base1 (w : World) (k n LB : Nat) (lc : Array Value) (MB : Nat) (mc : Array Value) (RB : Nat → Nat) (NB : Nat) (w' : World) : Prop where
  row : ∀ f, f < k → lc[f]? = some (.slice (some ⟨RB f, 0, none⟩) n n)
  rb : ∀ f, f < k → Blk w' (RB f) (madeCells #[.slice none 0 0] n) 24 ∧ w.heap.size ≤ RB f
  rinj : ∀ f g, f < k → g < k → RB f = RB g → f = g
  mem : ∀ i, i < k → ∃ q cm, mc[i]? = some (.pointer (some ⟨q, 0, none⟩)) ∧ Blk w' q cm 72 ∧ cm[0]? = some (.slice (some ⟨NB, 0, none⟩) n 4)
  frm : Frm (fun j => NB ≤ j) w w'
  nm : Blk w' NB namesC 9
/-- Behind loop 1. -/
structure Base (w : World) (n S MB LB : Nat) (RB : Nat → Nat) (NB : Nat) (w' : World) : Prop where
  ex : ∃ lc mc BB, Blk w' S (simCells n MB LB BB) 51 ∧ Blk w' LB lc 52 ∧ Blk w' MB mc 61 ∧ Base1 w n n LB lc MB mc RB NB w'

theorem src_new0 {W : World} {x : Value} {t tx e : TypeId} (hk : Ybaf.prog.underlying tx = some (.slice e)) (hx : x.oneCell' = true) : Src Ybaf.prog 1 tx (.slice (some ⟨W.heap.size, 0, none⟩) 1 1) 1 [x] (W.alloc (.cells #[x] t)) := by
  refine Src.ofSlice _ hk ⟨W.heap.size, 0, none⟩ 1 1 [x] rfl (fun j u hu => ?_) (by intro u hu; simp at hu; subst hu; exact hx)
  rw [add_lit, Blk.cell (w := W.alloc (.cells #[x] t)) (cs := #[x]) (t := t) (Blk.new W #[x] t)]
  simpa using hu

set_option maxRecDepth 100000 in
set_option maxHeartbeats 4000000 in
theorem build_ok (a : Nat) (ha : a < 256) (v1 v2 v3 : Value) (l1 l2 l3 : Nat) (x1 x2 : Nat → Nat) (x3 : Nat → Bool) (w : World) (hv1 : ByteArg w w.heap.size v1 l1 x1) (hv2 : ByteArg w w.heap.size v2 l2 x2) (hv3 : BoolArg w w.heap.size v3 l3 x3) (hl1 : l1 ≤ 256) (hl2 : l2 ≤ 140737488355328) (hl3 : l3 ≤ 140737488355328) (h0 : 0 < w.heap.size) (hT : TabAt w) :
    Calls Ybaf.prog 5 #[.int .u8 a, v1, v2, v3] w fun en w' => ∃ n S allv, en = .returned (.tuple #[.pointer (some ⟨S, 0, none⟩), allv, .int .i64 (n : Nat)]) ∧ 2 ≤ n ∧ n ≤ 4 ∧ Built w n l1 S allv w' := by
  obtain ⟨p1, c1, rfl, hp1⟩ := hv1
  obtain ⟨p2, c2, rfl, hp2⟩ := hv2
  obtain ⟨p3, c3, rfl, hp3⟩ := hv3
  have ha' : (a : Int) < 256 := by omega
  have hl1' : (l1 : Int) ≤ 256 := by omega
  have hl2' : (l2 : Int) ≤ 140737488355328 := by omega
  have hl3' : (l3 : Int) ≤ 140737488355328 := by omega
  go_enter Ybaf.func5, Ybaf.ntmps5
  go_upto_region 2 with fail
  go_name_slot 11 nI hnI
  obtain ⟨n, rfl⟩ : ∃ n : Nat, nI = n := ⟨nI.toNat, by omega⟩
  have hn2 : (2 : Int) ≤ n := by omega
  have hn4 : (n : Int) ≤ 4 := by omega
  clear hnI
  have mk37 := run_make_row' (P := Ybaf.prog) 37 61 _ 8 Ybaf.underlying37 info61 rfl .i64 .i64 n (by omega) (by omega)
  have mk44 := run_make_row' (P := Ybaf.prog) 44 52 _ 24 Ybaf.underlying44 info52 rfl .i64 .i64 n (by omega) (by omega)
  have mk45 := run_make_row' (P := Ybaf.prog) 45 27 _ 24 Ybaf.underlying45 info27 rfl .i64 .i64 n (by omega) (by omega)
  have z51 := run_zero51
  have zs := zero51_size
  have z0 : ¬ zero51 = #[] := fun e => by rw [e] at zs; cases zs
  go_upto_region 3 with fail
  go_name_world W hW
  have fW : Frm (fun _ => False) w W := hW ▸ (Frm.refl _ w).alloc _
  have nW : Blk W w.heap.size #[.string ⟨#[97]⟩, .string ⟨#[98]⟩, .string ⟨#[99]⟩, .string ⟨#[100]⟩] 9 := hW ▸ Blk.new w _ 9
  clear hW
  go_cut [13] (fun s13 wx => ∃ S MB LB BB, s13 = .pointer (some ⟨S, 0, none⟩) ∧ Raw W n S MB LB BB wx)
  case first =>
    go_region
    all_goals
      go_wp2_with fail
      go_meet
      obtain ⟨f1, f2, f3, f4, f5⟩ := four W _ _ _ _
      first
        | exact ⟨_, _, _, _, rfl, ⟨f4, f1, f2, f3, by omega, f5⟩⟩
        | exact ⟨_, _, _, _, rfl, ⟨f4, f1, f3, f2, by omega, f5⟩⟩
        | exact ⟨_, _, _, _, rfl, ⟨f4, f2, f1, f3, by omega, f5⟩⟩
        | exact ⟨_, _, _, _, rfl, ⟨f4, f2, f3, f1, by omega, f5⟩⟩
        | exact ⟨_, _, _, _, rfl, ⟨f4, f3, f1, f2, by omega, f5⟩⟩
        | exact ⟨_, _, _, _, rfl, ⟨f4, f3, f2, f1, by omega, f5⟩⟩
  case rest =>
    obtain ⟨S, MB, LB, BB, rfl, hRaw⟩ := hcut
    go_upto_block 0 with fail
    obtain ⟨w1, rfl⟩ : ∃ x, x = wc := ⟨wc, rfl⟩
    go_cut [14] (fun _ wx => ∃ RB, Base w1 n S MB LB RB w.heap.size wx)
    case first =>
      obtain ⟨lo1, lo2, lo3, lo4⟩ := hRaw.low
      have sW := fW.size
      have hS := hRaw.s
      have hM := hRaw.m
      have hL := hRaw.l
      have hB := hRaw.b
      have dSM := blk_ne hS hM (by decide)
      have dSL := blk_ne hS hL (by decide)
      have dSB := blk_ne hS hB (by decide)
      have dML := blk_ne hM hL (by decide)
      have dMB := blk_ne hM hB (by decide)
      have dLB := blk_ne hL hB (by decide)
      have q0 : (simCells n MB LB BB)[0]? = some (.slice (some ⟨MB, 0, none⟩) n n) := by
        unfold simCells
        rw [Array.getElem?_setIfInBounds_ne (by decide), Array.getElem?_setIfInBounds_ne (by decide), Array.getElem?_setIfInBounds_self_of_lt (by rw [zs]; decide)]
      have q134 : (simCells n MB LB BB)[134]? = some (.slice (some ⟨LB, 0, none⟩) n n) := by
        unfold simCells
        rw [Array.getElem?_setIfInBounds_ne (by decide), Array.getElem?_setIfInBounds_self_of_lt (by simp [zs])]
      have q135 : (simCells n MB LB BB)[135]? = some (.slice (some ⟨BB, 0, none⟩) n n) := by
        unfold simCells
        rw [Array.getElem?_setIfInBounds_self_of_lt (by simp [zs])]
      have mk52 := run_make_row' (P := Ybaf.prog) 52 24 _ 24 Ybaf.underlying52 info24 rfl .i64 .i64 n (by omega) (by omega)
      have mk27 := run_make_row' (P := Ybaf.prog) 27 4 _ 1 Ybaf.underlying27 info4 rfl .i64 .i64 n (by omega) (by omega)
      clear mk37 mk44 mk45 z51 zs z0
      go_wp2_with fail
      go_loopw [14] (fun i wr => ∃ (k : Nat) (RB : Nat → Nat) (lc mc bc : Array Value), k ≤ n ∧ i = .int .i64 k ∧ Blk wr S (simCells n MB LB BB) 51 ∧ Blk wr LB lc 52 ∧ Blk wr MB mc 61 ∧ Blk wr BB bc 27 ∧ lc.size = n ∧ mc.size = n ∧ bc.size = n ∧ Base1 w1 k n LB lc MB mc RB w.heap.size wr) (fun i _ => n - (intOf i).toNat)
      case atStart => exact ⟨0, fun _ => 0, _, _, _, Nat.zero_le _, rfl, hS, hL, hM, hB, size_madeCells _ _, size_madeCells _ _, size_madeCells _ _, ⟨fun f hf => by omega, fun f hf => by omega, fun f g hf => by omega, fun i hi => by omega, Frm.refl _ _, hRaw.frm.blk nW id⟩⟩
      case round =>
        obtain ⟨k, RB, lc, mc, bc, hk, rfl, hS1, hL1, hM1, hB1, hls, hms, hbs, hb1⟩ := hrel
        by_cases hlt : k < n
        · have hlt' : (k : Int) < n := by omega
          have hk0 : (0 : Int) ≤ k := by omega
          have c0 := (hS1.cell 0).trans q0
          obtain ⟨um, hum⟩ : ∃ u, mc[k]? = some u := ⟨mc[k], by simp [hms, hlt]⟩
          have cm := (hM1.cell k).trans hum
          have fm := hM1.frozen k
          have hMw := hM1.lt
          have nM : wr.heap.size ≠ MB := by omega
          go_upto_region 8 with fail
          go_name_world W2 hW2
          obtain ⟨cmm, hmem2, W2s, M2, f2⟩ : ∃ cmm : Array Value, Blk W2 wr.heap.size cmm 72 ∧ cmm[0]? = some (.slice (some ⟨w.heap.size, 0, none⟩) n 4) ∧ Blk W2 MB (mc.setIfInBounds k (.pointer (some ⟨wr.heap.size, 0, none⟩))) 61 ∧ Frm (fun j => j = MB) wr W2 := by
            subst hW2
            have hb := Blk.new (wr.setCell ⟨MB, k, none⟩ (.pointer (some ⟨wr.heap.size, 0, none⟩))) #[Value.slice (some ⟨w.heap.size, 0, none⟩) n 4, .int .i64 k, .int .i64 0, .nilIface, .nilIface, .bool false, .bool false, .slice none 0 0, .string ⟨#[]⟩, .slice none 0 0, .bool false, .nilIface, .pointer (some ⟨S, 0, none⟩), .bool false] 72
            rw [World.size_setCell] at hb
            exact ⟨_, hb, rfl, ((Frm.refl (fun _ => False) _).alloc _).blk (hM1.same k _) id, ((Frm.refl (fun j => j = MB) wr).setCell ⟨MB, k, none⟩ _ (fun _ => rfl)).alloc _⟩
          clear hW2 c0 cm fm
          have S2 := f2.blk hS1 dSM
          have L2 := f2.blk hL1 (fun e => dML e.symm)
          have B2 := f2.blk hB1 (fun e => dMB e.symm)
          have c134 := (S2.cell 134).trans q134
          obtain ⟨ul, hul⟩ : ∃ u, lc[k]? = some u := ⟨lc[k], by simp [hls, hlt]⟩
          have cl := (L2.cell k).trans hul
          have fl := L2.frozen k
          have hLw := L2.lt
          have hSw := S2.lt
          have nL : W2.heap.size ≠ LB := by omega
          have nS : W2.heap.size ≠ S := by omega
          go_cut [14] (fun s14 wx => s14 = .int .i64 k ∧ Blk wx LB (lc.setIfInBounds k (.slice (some ⟨W2.heap.size, 0, none⟩) n n)) 52 ∧ Blk wx W2.heap.size (madeCells #[.slice none 0 0] n) 24 ∧ Frm (fun j => j = LB) W2 wx)
          case first =>
            have hdone := put_new W2 (ns := madeCells #[.slice none 0 0] n) (u := 24) L2 k (.slice (some ⟨W2.heap.size, 0, none⟩) n n)
            have HD : Hid (_ ∧ _ ∧ _) := hdone
            clear hdone
            clear S2 L2 B2 M2 W2s hmem2 f2 hb1 hS1 hL1 hM1 hB1 hS hM hL hB hRaw
            go_region
            all_goals
              go_wp2_with fail
              go_meet
              exact ⟨rfl, HD.out⟩
          case rest =>
            obtain ⟨rfl, L3, R3, f3⟩ := hcut
            obtain ⟨w3, rfl⟩ : ∃ x, x = wc := ⟨wc, rfl⟩
            have S3 := f3.blk S2 dSL
            have M3 := f3.blk M2 dML
            have B3 := f3.blk B2 (fun e => dLB e.symm)
            have q3 := f3.blk hmem2 (blk_ne hmem2 L2 (by decide))
            have c135 := (S3.cell 135).trans q135
            obtain ⟨ub, hub⟩ : ∃ u, bc[k]? = some u := ⟨bc[k], by simp [hbs, hlt]⟩
            have cb := (B3.cell k).trans hub
            have fb := B3.frozen k
            have hBw := B3.lt
            have hSw3 := S3.lt
            have nB : w3.heap.size ≠ BB := by omega
            have nS3 : w3.heap.size ≠ S := by omega
            obtain ⟨B4, _, f4⟩ := put_new w3 (ns := madeCells #[.bool false] n) (u := 4) B3 k (.slice (some ⟨w3.heap.size, 0, none⟩) n n)
            have f24 : Frm (fun j => j = LB ∨ j = BB) W2 ((w3.setCell ⟨BB, k, none⟩ (.slice (some ⟨w3.heap.size, 0, none⟩) n n)).alloc (.cells (madeCells #[.bool false] n) 4)).drew := (f3.mono (fun _ _ e => .inl e)).trans f4 (fun _ _ e => .inr e)
            have hend : Hid (∃ (k' : Nat) (RB : Nat → Nat) (lc mc bc : Array Value), k' ≤ n ∧ Value.int IntKind.i64 ((k : Int) + 1) = .int .i64 k' ∧ Blk ((w3.setCell ⟨BB, k, none⟩ (.slice (some ⟨w3.heap.size, 0, none⟩) n n)).alloc (.cells (madeCells #[.bool false] n) 4)).drew S (simCells n MB LB BB) 51 ∧ Blk ((w3.setCell ⟨BB, k, none⟩ (.slice (some ⟨w3.heap.size, 0, none⟩) n n)).alloc (.cells (madeCells #[.bool false] n) 4)).drew LB lc 52 ∧ Blk ((w3.setCell ⟨BB, k, none⟩ (.slice (some ⟨w3.heap.size, 0, none⟩) n n)).alloc (.cells (madeCells #[.bool false] n) 4)).drew MB mc 61 ∧ Blk ((w3.setCell ⟨BB, k, none⟩ (.slice (some ⟨w3.heap.size, 0, none⟩) n n)).alloc (.cells (madeCells #[.bool false] n) 4)).drew BB bc 27 ∧ lc.size = n ∧ mc.size = n ∧ bc.size = n ∧ Base1 w1 k' n LB lc MB mc RB w.heap.size ((w3.setCell ⟨BB, k, none⟩ (.slice (some ⟨w3.heap.size, 0, none⟩) n n)).alloc (.cells (madeCells #[.bool false] n) 4)).drew) := by
              refine ⟨k + 1, fun f => if f = k then W2.heap.size else RB f, lc.setIfInBounds k (.slice (some ⟨W2.heap.size, 0, none⟩) n n), mc.setIfInBounds k (.pointer (some ⟨wr.heap.size, 0, none⟩)), bc.setIfInBounds k (.slice (some ⟨w3.heap.size, 0, none⟩) n n), hlt, rfl, f4.blk S3 dSB, f4.blk L3 dLB, f4.blk M3 dMB, B4, by simp [hls], by simp [hms], by simp [hbs], ?_⟩
              have hszW : w1.heap.size ≤ W2.heap.size := Nat.le_trans hb1.frm.size f2.size
              have old : ∀ f, f < k → RB f < wr.heap.size := fun f hf => (hb1.rb f hf).1.lt
              refine ⟨fun f hf => ?_, fun f hf => ?_, fun f g hf hg e => ?_, fun i hi => ?_, ?_, ?_⟩
              · by_cases e : f = k
                · subst e
                  rw [if_pos rfl, Array.getElem?_setIfInBounds_self_of_lt (by omega)]
                · rw [if_neg e, Array.getElem?_setIfInBounds_ne (Ne.symm e)]
                  exact hb1.row f (by omega)
              · by_cases e : f = k
                · rw [if_pos e]
                  exact ⟨f4.blk R3 (blk_ne R3 B3 (by decide)), hszW⟩
                · rw [if_neg e]
                  obtain ⟨h1, h2⟩ := hb1.rb f (by omega)
                  have h1' := f2.blk h1 (blk_ne h1 hM1 (by decide))
                  exact ⟨f24.blk h1' (fun e => by rcases e with e | e; (· exact blk_ne h1' L2 (by decide) e); (· exact blk_ne h1' B2 (by decide) e)), h2⟩
              · have hw2 := f2.size
                by_cases e1 : f = k
                · by_cases e2 : g = k
                  · omega
                  · rw [if_pos e1, if_neg e2] at e
                    have := old g (by omega)
                    omega
                · by_cases e2 : g = k
                  · rw [if_neg e1, if_pos e2] at e
                    have := old f (by omega)
                    omega
                  · rw [if_neg e1, if_neg e2] at e
                    exact hb1.rinj f g (by omega) (by omega) e
              · by_cases e : i = k
                · subst e
                  exact ⟨_, cmm, Array.getElem?_setIfInBounds_self_of_lt (by omega), f4.blk q3 (blk_ne q3 B3 (by decide)), W2s⟩
                · obtain ⟨q, cm', h1, h2, h3⟩ := hb1.mem i (by omega)
                  have h2' := f2.blk h2 (blk_ne h2 hM1 (by decide))
                  exact ⟨q, cm', by rw [Array.getElem?_setIfInBounds_ne (Ne.symm e)]; exact h1, f24.blk h2' (fun e => by rcases e with e | e; (· exact blk_ne h2' L2 (by decide) e); (· exact blk_ne h2' B2 (by decide) e)), h3⟩
              · exact (hb1.frm.trans f2 (fun _ _ e => by omega)).trans f24 (fun j _ e => by omega)
              · have h1' := f2.blk hb1.nm (blk_ne hb1.nm hM1 (by decide))
                exact f24.blk h1' (fun e => by rcases e with e | e; (· exact blk_ne h1' L2 (by decide) e); (· exact blk_ne h1' B2 (by decide) e))
            clear S3 M3 B3 q3 B4 f4 f24 L3 R3 f3 S2 L2 B2 M2 W2s hmem2 f2 hb1 hS1 hL1 hM1 hB1 hS hM hL hB hRaw
            go_upto_region 9 with fail
            go_region
            all_goals
              go_wp2_with fail
              exact ⟨hend.out, by simp [intOf]; omega⟩
        · have hlt' : ¬ (k : Int) < n := by omega
          obtain rfl : k = n := by omega
          have hend : Hid (∃ RB, Base w1 k S MB LB RB w.heap.size wr) := ⟨RB, lc, mc, BB, hS1, hL1, hM1, hb1⟩
          clear hb1 hS1 hL1 hM1 hB1 hS hM hL hB hRaw
          go_wp2_with fail
          go_meet
          exact hend.out
    case rest =>
      obtain ⟨RB, hBase⟩ := hcut
      obtain ⟨w2, rfl⟩ : ∃ x, x = wc := ⟨wc, rfl⟩
      have hnnN : n * n ≤ 16 := by
        have h4 : n ≤ 4 := by omega
        exact Nat.mul_le_mul h4 h4
      have mk73 := run_make_row' (P := Ybaf.prog) 73 28 _ 8 Ybaf.underlying73 info28 rfl .i64 .i64 (n * n) (by omega) (by omega)
      simp only [Int.natCast_mul] at mk73
      clear mk37 mk44 mk45
      have hnn : (n : Int) * n ≤ 16 := by
        obtain rfl | rfl | rfl : n = 2 ∨ n = 3 ∨ n = 4 := by omega
        all_goals decide
      have hnn0 : (0 : Int) ≤ (n : Int) * n := by
        obtain rfl | rfl | rfl : n = 2 ∨ n = 3 ∨ n = 4 := by omega
        all_goals decide
      go_upto_block 2 with fail
      go_name_world W3 hW3
      have f3 : Frm (fun _ => False) w2 W3 := hW3 ▸ (Frm.refl _ w2).alloc _
      have tb3 : Blk W3 w2.heap.size (madeCells #[.int .i64 0] (n * n)) 28 := hW3 ▸ Blk.new w2 _ 28
      clear hW3
      obtain ⟨lc, mc, BB', hS2, hL2, hM2, hb2⟩ := hBase
      have hstart : BltX w.heap.size w W3 W3.heap.size n 0 S (simCells n MB LB BB') LB RB lc w2.heap.size (.slice none 0 0) W3 := by
        have s1 := fW.size
        have s2 := hRaw.frm.size
        have s3 := hb2.frm.size
        have s4 := f3.size
        obtain ⟨lo1, lo2, lo3, lo4⟩ := hRaw.low
        have hSB := (f3.blk hS2 id).lt
        have hLB := (f3.blk hL2 id).lt
        have hTB := tb3.lt
        refine ⟨fun _ => 0, fun _ => ⟨0, 0, 0, false⟩, _, fun _ => [], fun _ => 0, 0, 0, _, _, _, _, {
          q := Queue.first _ _ _ (f3.blk hS2 id) hSB
          l := BL.first _ (f3.blk hL2 id) hLB hb2.row (fun f hf => ⟨f3.blk (hb2.rb f hf).1 id, (f3.blk (hb2.rb f hf).1 id).lt⟩) hb2.rinj
          csK := fun _ _ => rfl
          cross := fun _ _ _ _ _ _ _ _ _ _ h => by cases h
          all := World.ownsRow_nil _ _ _ _
          allS := fun _ _ _ _ _ h => by cases h
          allL := fun _ _ _ _ _ h => by cases h
          isIn := fun x hx => by omega
          lsE := fun _ _ _ _ => rfl
          fits := fun x hx => by omega
          tb := tb3
          tbl := hTB
          tsz := size_madeCells _ _
          tval := fun i hi => ⟨0, by simp [madeCells, hi, Nat.mod_one], by omega⟩
          base := ⟨h0, by omega, by omega, by omega, fun f hf => by have := (hb2.rb f hf).2; omega, fun x hx => by omega, by omega, Nat.le_refl _⟩
          frm := ?_
          frm3 := Frm.refl _ _ }⟩
        have g1 : Frm (fun j => w.heap.size ≤ j) w w1 := (fW.mono (fun _ _ e => e.elim)).trans hRaw.frm (fun _ _ e => e.elim)
        exact (g1.trans hb2.frm (fun j hj e => e)).trans f3 (fun _ _ e => e.elim)
      have HST : Hid (BltX w.heap.size w W3 W3.heap.size n 0 S (simCells n MB LB BB') LB RB lc w2.heap.size (.slice none 0 0) W3) := hstart
      have HW3 : Hid ((Blk W3 S (simCells n MB LB BB') 51 ∧ (∀ f, f < n → Blk W3 (RB f) (madeCells #[.slice none 0 0] n) 24) ∧ Blk W3 w2.heap.size (madeCells #[.int .i64 0] (n * n)) 28) ∧ Blk W3 MB mc 61 ∧ Blk W3 w.heap.size namesC 9 ∧ ∀ i, i < n → ∃ q cm, mc[i]? = some (.pointer (some ⟨q, 0, none⟩)) ∧ Blk W3 q cm 72 ∧ cm[0]? = some (.slice (some ⟨w.heap.size, 0, none⟩) n 4)) := ⟨⟨f3.blk hS2 id, fun f hf => f3.blk (hb2.rb f hf).1 id, tb3⟩, f3.blk hM2 id, f3.blk hb2.nm id, fun i hi => by
        obtain ⟨q, cm, h1, h2, h3⟩ := hb2.mem i hi
        exact ⟨q, cm, h1, f3.blk h2 id, h3⟩⟩
      clear hstart hS2 hL2 hM2 hb2 f3 tb3 hRaw z51 zs z0 mk73 nW fW
      go_wp2_with fail
      go_loopw [16, 17] (fun va i wr => ∃ k : Nat, k ≤ l1 ∧ i = .int .i64 k ∧ BltX w.heap.size w W3 W3.heap.size n k S (simCells n MB LB BB') LB RB lc w2.heap.size va wr) (fun _ i _ => l1 - (intOf i).toNat)
      case atStart => exact ⟨0, Nat.zero_le _, rfl, HST.out⟩
      case round =>
        obtain ⟨k, hk, rfl, hX⟩ := hrel
        by_cases hlt : k < l1
        · obtain ⟨A, d, cs, hs, ix, F0, F1, rc, lv, ls, tc, hB⟩ := hX
          have hlt' : (k : Int) < l1 := by omega
          have hk0 : (0 : Int) ≤ k := by omega
          obtain ⟨b1, o1, rfl, hb1, hc1⟩ := hp1 (by omega)
          obtain ⟨e1, e1b⟩ := hc1 k hlt
          have y1 : wr.cell? ⟨b1, o1 + k, none⟩ = some (.int .u8 (x1 k)) := (hB.frm.cell (a := ⟨b1, o1 + k, none⟩) hb1 (by show ¬ w.heap.size ≤ b1; omega)).trans e1
          have HB : Hid (Blt w.heap.size w W3 wr W3.heap.size n k A d S (simCells n MB LB BB') cs hs ix F0 F1 LB RB lc rc lv ls u16 w2.heap.size tc) := hB
          clear hB
          go_wp2_with fail
          refine (link_ok n (x1 k) (by omega) (by omega) e1b _).mono ?_
          rintro e w4 ⟨⟨f, t, rfl, hf, ht, hft⟩, hw4⟩
          rw [hw4]
          clear hw4 w4
          have hf' : (f : Int) < n := by omega
          have ht' : (t : Int) < n := by omega
          go_upto_if 93 with fail
          go_cut [20] (fun s20 wx => wx = wr ∧ ∃ g : Nat, s20 = .int .u8 g ∧ g < 256)
          case first =>
            by_cases hkg : k < l2
            · obtain ⟨b2, o2, rfl, hb2, hc2⟩ := hp2 (by omega)
              obtain ⟨e2, e2b⟩ := hc2 k hkg
              have hkg' : (k : Int) < l2 := by omega
              have y2 : wr.cell? ⟨b2, o2 + k, none⟩ = some (.int .u8 (x2 k)) := (HB.out.frm.cell (a := ⟨b2, o2 + k, none⟩) hb2 (by show ¬ w.heap.size ≤ b2; omega)).trans e2
              clear hp1 hp2 hp3
              go_wp2_with fail
              go_meet
              exact ⟨rfl, x2 k, rfl, e2b⟩
            · have hkg' : ¬ (k : Int) < l2 := by omega
              clear hp1 hp2 hp3
              go_wp2_with fail
              go_meet
              exact ⟨rfl, 0, rfl, by omega⟩
          case rest =>
            obtain ⟨hwc, g, rfl, hg⟩ := hcut
            rw [hwc]
            clear hwc wc
            have hg' : (g : Int) < 256 := by omega
            have hg0 : (0 : Int) ≤ g := by omega
            go_upto_region 20 with fail
            go_name_slot 21 atI hatI
            have hat1 : 0 ≤ atI ∧ atI ≤ 10000000 := by omega
            obtain ⟨at0, rfl⟩ : ∃ x : Nat, atI = x := ⟨atI.toNat, by omega⟩
            have hat0 : at0 ≤ 10000000 := by omega
            have hat0' : (at0 : Int) ≤ 10000000 := by omega
            clear hatI hat1
            have hfn0 : (0 : Int) ≤ (f : Int) * n := Int.mul_nonneg (by omega) (by omega)
            have hfn1 : (f : Int) * n ≤ 12 := by
              have h1 : f * n ≤ 3 * 4 := Nat.mul_le_mul (by omega) (by omega)
              have h2 : ((f * n : Nat) : Int) = (f : Int) * n := Int.natCast_mul _ _
              omega
            have hidxN : f * n + t < n * n := by
              have h1 : (f + 1) * n ≤ n * n := Nat.mul_le_mul_right _ (by omega)
              rw [Nat.succ_mul] at h1
              omega
            have hidx : (f : Int) * n + t < (n : Int) * n := by
              have h2 : ((f * n : Nat) : Int) = (f : Int) * n := Int.natCast_mul _ _
              have h3 : ((n * n : Nat) : Int) = (n : Int) * n := Int.natCast_mul _ _
              omega
            obtain ⟨tl, htl, htl2⟩ := HB.out.tval _ hidxN
            have ct := (HB.out.tb.cell (f * n + t)).trans htl
            have ft := HB.out.tb.frozen (f * n + t)
            go_upto_if 113 with fail
            go_cut [21] (fun s21 wx => wx = wr ∧ ∃ t1 : Nat, s21 = .int .i64 t1 ∧ t1 ≤ 10000000)
            case first =>
              clear hp1 hp2 hp3
              by_cases hc : (at0 : Int) < tl
              · go_wp2_with fail
                go_meet
                exact ⟨rfl, tl, rfl, htl2⟩
              · go_wp2_with fail
                go_meet
                exact ⟨rfl, at0, rfl, hat0⟩
            case rest =>
              obtain ⟨hwc, t1, rfl, ht1⟩ := hcut
              rw [hwc]
              clear hwc wc
              have ht1' : (t1 : Int) ≤ 10000000 := by omega
              have hkw : IntKind.u64.wrap (k : Int) = k := by rw [IntKind.wrap_u64]; omega
              go_upto_region 23 with fail
              go_name_world W4 hW4
              have f4 : Frm (fun j => j = w2.heap.size) wr W4 := hW4 ▸ (Frm.refl (fun j => j = w2.heap.size) wr).setCell ⟨w2.heap.size, f * n + t, none⟩ _ (fun _ => rfl)
              have tb4 : Blk W4 w2.heap.size (tc.setIfInBounds (f * n + t) (.int .i64 t1)) 28 := hW4 ▸ HB.out.tb.same _ _
              clear hW4 ct ft
              go_cut [22] (fun s22 wx => ∃ cut : Bool, s22 = .pointer (some ⟨W4.heap.size, 0, none⟩) ∧ wx = W4.alloc (.cells (arrCells ⟨t1, f, t, cut⟩ k 0) 34))
              case first =>
                by_cases hkc : k < l3
                · obtain ⟨b3, o3, rfl, hb3, hc3⟩ := hp3 (by omega)
                  have hkc' : (k : Int) < l3 := by omega
                  have hw2b : w.heap.size ≤ w2.heap.size := HB.out.base.2.2.2.1
                  have y3 : W4.cell? ⟨b3, o3 + k, none⟩ = some (.bool (x3 k)) := (f4.cell (a := ⟨b3, o3 + k, none⟩) (by have := HB.out.frm.size; show b3 < wr.heap.size; omega) (by show ¬ b3 = w2.heap.size; omega)).trans ((HB.out.frm.cell (a := ⟨b3, o3 + k, none⟩) hb3 (by show ¬ w.heap.size ≤ b3; omega)).trans (hc3 k hkc))
                  clear hp1 hp2 hp3 f4 tb4
                  go_wp2_with fail
                  go_meet
                  exact ⟨x3 k, rfl, rfl⟩
                · have hkc' : decide ((k : Int) < l3) = false := decide_eq_false (by omega)
                  have hkc2 : ¬ (k : Int) < l3 := by omega
                  clear hp1 hp2 hp3 f4 tb4
                  go_wp2_with fail
                  go_meet
                  exact ⟨false, rfl, rfl⟩
              case rest =>
                obtain ⟨cut, rfl, hwc⟩ := hcut
                obtain ⟨w5, rfl⟩ : ∃ x, x = wc := ⟨wc, rfl⟩
                have f5 : Frm (fun _ => False) W4 w5 := hwc ▸ (Frm.refl _ W4).alloc _
                have b5 : Blk w5 W4.heap.size (arrCells ⟨t1, f, t, cut⟩ k 0) 34 := hwc ▸ Blk.new W4 _ 34
                clear hwc
                have Q4 : Queue W4 W3.heap.size k A d S cs hs ix F0 F1 true := HB.out.q.move (f4.blk HB.out.q.blk (blk_ne HB.out.q.blk HB.out.tb (by decide))) (fun _ _ _ => rfl) f4 (fun y hy => blk_ne (HB.out.q.arr.blk y hy) HB.out.tb (by decide)) (fun i hi v hv q hq e => by
                  obtain ⟨v', h1, h2⟩ := HB.out.q.slot i hi
                  rw [hv] at h1
                  have e' := Option.some.inj h1
                  subst e'
                  exact owns_blk h2 HB.out.tb (by decide) (by rw [← e]; exact hq))
                have Q5 := Q4.grow (e := ⟨t1, f, t, cut⟩) f5 b5 (Nat.le_refl _)
                have hlen : ∀ i, i < 128 → (hs i).length ≤ k := HB.out.q.len
                obtain ⟨vs, hvs, hrow5⟩ := Q5.slot (slotOf (ext d k ⟨t1, f, t, cut⟩ k).at_) (slotOf_lt _)
                have hnew : k ∉ hs (slotOf (ext d k ⟨t1, f, t, cut⟩ k).at_) := fun h => by
                  have := (HB.out.q.mem _ (slotOf_lt _) k h).1
                  omega
                have hdk : ext d k ⟨t1, f, t, cut⟩ k = ⟨t1, f, t, cut⟩ := ext_new _ _ _
                have hAk : ext A k W4.heap.size k = W4.heap.size := ext_new _ _ _
                have hFw : cs[131 + slotOf (ext d k ⟨t1, f, t, cut⟩ k).at_ / 64]? = some (.int .u64 ((if slotOf (ext d k ⟨t1, f, t, cut⟩ k).at_ < 64 then F0 else F1 : Nat) : Int)) := by
                  have hs128 := slotOf_lt (ext d k ⟨t1, f, t, cut⟩ k).at_
                  by_cases h : slotOf (ext d k ⟨t1, f, t, cut⟩ k).at_ < 64
                  · rw [if_pos h, show 131 + slotOf (ext d k ⟨t1, f, t, cut⟩ k).at_ / 64 = 131 by omega]
                    exact Q5.w0
                  · rw [if_neg h, show 131 + slotOf (ext d k ⟨t1, f, t, cut⟩ k).at_ / 64 = 132 by omega]
                    exact Q5.w1
                have hpush := push_ok W3.heap.size (k + 1) (ext A k W4.heap.size) (ext d k ⟨t1, f, t, cut⟩) S cs vs (hs (slotOf (ext d k ⟨t1, f, t, cut⟩ k).at_)) (ext ix k 0) k (if slotOf (ext d k ⟨t1, f, t, cut⟩ k).at_ < 64 then F0 else F1) w5 Q5.blk (by omega) (by rw [hdk]; exact ht1) hvs hFw Q5.arr hrow5 (fun x hx => (Q5.mem _ (slotOf_lt _) x hx).1) (Q5.pos _ (slotOf_lt _)) hnew (by have := hlen _ (slotOf_lt (ext d k ⟨t1, f, t, cut⟩ k).at_); omega) (by omega) (by have := HB.out.base.2.2.2.2.2.2.2; have := f4.size; have := f5.size; omega) HB.out.q.low (by split; exact Q5.l0; exact Q5.l1)
                rw [hAk] at hpush
                have HPU : Hid (Calls Ybaf.prog 9 _ w5 _) := hpush
                clear hpush hp1 hp2 hp3
                go_wp2_with fail
                refine HPU.out.mono ?_
                rintro e w6 ⟨rfl, hPd⟩
                have hmore := Q5.pushed (by omega) hnew (by have := hlen _ (slotOf_lt (ext d k ⟨t1, f, t, cut⟩ k).at_); omega) hvs rfl hPd
                obtain ⟨cs6, h6, ix6, G0, G1, v6, bb6, Q6, r5, r3, r7, r4, r9, r8, fr6⟩ := hmore
                clear hPd HPU
                have fr46 : Frm (fun j => v6.ownBlock = some j ∨ j = S ∨ ∃ x, x < k + 1 ∧ j = ext A k W4.heap.size x) W4 w6 := (f5.mono (fun _ _ e => e.elim)).trans fr6 (fun _ _ e => e)
                have hv6 : vs = v6 := Option.some.inj (hvs.symm.trans r4)
                have hslotRow : ∀ q, v6.ownBlock = some q → W3.heap.size ≤ q := fun q hq => (hrow5.lt q (by rw [hv6]; exact hq)).1
                have L4 : BL W4 W3.heap.size n A LB RB lc rc lv ls := HB.out.l.frm f4 (blk_ne HB.out.l.lb HB.out.tb (by decide)) (fun g hg => blk_ne (HB.out.l.rb g hg) HB.out.tb (by decide)) (fun g u hg hu q hq e => owns_blk (HB.out.l.own g u hg hu) HB.out.tb (by decide) (by rw [← e]; exact hq))
                have hmemL : ∀ g u, g < n → u < n → ∀ x ∈ ls g u, x < k := fun g u hg hu x hx => by
                  rw [HB.out.lsE g u hg hu] at hx
                  exact List.mem_range.1 (List.mem_filter.1 hx).1
                have L6 : BL w6 W3.heap.size n (ext A k W4.heap.size) LB RB lc rc lv ls := by
                  refine (L4.ext hmemL).frm fr46 (fun e => ?_) (fun g hg e => ?_) (fun g u hg hu q hq e => ?_)
                  · rcases e with e | e | ⟨x, hx, e⟩
                    · have := hslotRow _ e
                      have := HB.out.l.lbl
                      omega
                    · exact blk_ne Q4.blk L4.lb (by decide) e.symm
                    · exact blk_ne (Q5.arr.blk x hx) (f5.blk L4.lb id) (by decide) e.symm
                  · rcases e with e | e | ⟨x, hx, e⟩
                    · have := hslotRow _ e
                      have := HB.out.l.rbl g hg
                      omega
                    · exact blk_ne Q4.blk (L4.rb g hg) (by decide) e.symm
                    · exact blk_ne (Q5.arr.blk x hx) (f5.blk (L4.rb g hg) id) (by decide) e.symm
                  · rcases e with e | e | ⟨x, hx, e⟩
                    · exact HB.out.cross _ (slotOf_lt _) v6 r4 g u hg hu q e hq
                    · have := ((L4.own g u hg hu).lt q hq).1
                      have := HB.out.q.low
                      omega
                    · exact owns_blk (f5.owns (L4.own g u hg hu) (fun _ _ => id)) (Q5.arr.blk x hx) (by decide) (by rw [← e]; exact hq)
                have q134 : (simCells n MB LB BB')[134]? = some (.slice (some ⟨LB, 0, none⟩) n n) := by
                  unfold simCells
                  rw [Array.getElem?_setIfInBounds_ne (by decide), Array.getElem?_setIfInBounds_self_of_lt (by simp [zero51_size])]
                have c134 := (Q6.blk.cell 134).trans ((r3 134 (by omega)).trans ((HB.out.csK 134 (by omega)).trans q134))
                have cRow := (L6.lb.cell f).trans (L6.row f hf)
                have ownL := L6.own f t hf ht
                obtain ⟨pl, cl, hlv, hl1c, hl2c, _⟩ := owns_form ownL
                have cLink := ((L6.rb f hf).cell t).trans (L6.cell f t hf ht)
                have fLink := (L6.rb f hf).frozen t
                rw [hlv] at cLink ownL
                have hls : (ls f t).length ≤ k := by
                  rw [HB.out.lsE f t hf ht]
                  exact Nat.le_trans (List.length_filter_le _ _) (by simp)
                have hB6 : W3.heap.size ≤ w6.heap.size := by
                  have := HB.out.base.2.2.2.2.2.2.2
                  have := f4.size
                  have := fr46.size
                  omega
                have hSlt := Q6.blk.lt
                have hLlt := L6.lb.lt
                have hRlt := (L6.rb f hf).lt
                have dRS : RB f ≠ S := blk_ne (L6.rb f hf) Q6.blk (by decide)
                have dRL : RB f ≠ LB := blk_ne (L6.rb f hf) L6.lb (by decide)
                have hnB : ∀ q, (Value.slice pl (ls f t).length cl).ownBlock = some q → W3.heap.size ≤ q := fun q hq => (ownL.lt q hq).1
                have hRB := L6.rbl f hf
                have hLBl := L6.lbl
                have hSBl := Q6.low
                have kp : Hid (∀ w1, Frm (fun j => (Value.slice pl (ls f t).length cl).ownBlock = some j) w6 w1 → (w1.cell? ⟨S, 134, none⟩ = some (.slice (some ⟨LB, 0, none⟩) n n) ∧ w1.cell? ⟨LB, f, none⟩ = some (.slice (some ⟨RB f, 0, none⟩) n n)) ∧ w1.cell? ⟨RB f, t, none⟩ = some (.slice pl (ls f t).length cl) ∧ w1.frozen? ⟨RB f, t, none⟩ = false) := fun w1 hf1 => by
                  have b1 := hf1.blk Q6.blk (fun e => by have := hnB _ e; omega)
                  have b2 := hf1.blk L6.lb (fun e => by have := hnB _ e; omega)
                  have b3 := hf1.blk (L6.rb f hf) (fun e => by have := hnB _ e; omega)
                  refine ⟨⟨(b1.cell _).trans ((Q6.blk.cell 134).symm.trans c134), (b2.cell _).trans ((L6.lb.cell f).symm.trans cRow)⟩, (b3.cell _).trans (((L6.rb f hf).cell t).symm.trans cLink), b3.frozen _⟩
                have cLa : ∀ ob : Obj, (w6.alloc ob).cell? ⟨RB f, t, none⟩ = some (.slice pl (ls f t).length cl) := fun ob => (((Frm.refl (fun _ => False) w6).alloc ob).cell (a := ⟨RB f, t, none⟩) hRlt id).trans cLink
                obtain ⟨j0, hj0, hjz, hjs, hjb⟩ := info_parts info35
                have H6 : Hid (BL w6 W3.heap.size n (ext A k W4.heap.size) LB RB lc rc lv ls) := L6
                have HQ6 : Hid (Queue w6 W3.heap.size (k + 1) (ext A k W4.heap.size) (ext d k ⟨t1, f, t, cut⟩) S cs6 (upd hs (slotOf (ext d k ⟨t1, f, t, cut⟩ k).at_) h6) ix6 G0 G1 true) := Q6
                have HD : Hid (RB f ≠ S ∧ RB f ≠ LB) := ⟨dRS, dRL⟩
                have HN : Hid (∀ q, (Value.slice pl (ls f t).length cl).ownBlock = some q → W3.heap.size ≤ q) := hnB
                have off1 : ∀ (w' : World) (v' : Value), (w'.setCell ⟨RB f, t, none⟩ v').cell? ⟨S, 134, none⟩ = w'.cell? ⟨S, 134, none⟩ := fun w' v' => World.cell?_setCell_far w' _ _ _ dRS
                have off2 : ∀ (w' : World) (v' : Value), (w'.setCell ⟨RB f, t, none⟩ v').cell? ⟨LB, f, none⟩ = w'.cell? ⟨LB, f, none⟩ := fun w' v' => World.cell?_setCell_far w' _ _ _ dRL
                have n1 : w6.heap.size ≠ S := by omega
                have n2 : w6.heap.size ≠ LB := by omega
                have HAL : Hid (w6.ownsRow W3.heap.size 35 1 u16 k ((List.range k).map (ptr A))) := HB.out.all6 f4 (slotOf_lt _) r4 fr46
                have HNX : Hid (∀ (v1 : Value) (w7 : World), BL w7 W3.heap.size n (ext A k W4.heap.size) LB RB lc (fun g => if g = f then (rc f).setIfInBounds t v1 else rc g) (upd2 lv f t v1) (upd2 ls f t (ls f t ++ [k])) → Frm (fun q => q = RB f ∨ (lv f t).ownBlock = some q) w6 w7 → (v1.ownBlock = (lv f t).ownBlock ∨ ∃ q, v1.ownBlock = some q ∧ w6.heap.size ≤ q) → ∀ (all8 : Value) (w8 : World), w8.ownsRow W3.heap.size 35 1 all8 (k + 1) ((List.range k).map (ptr A) ++ [.pointer (some ⟨W4.heap.size, 0, none⟩)]) → Frm (fun q => u16.ownBlock = some q) w7 w8 → (all8.ownBlock = u16.ownBlock ∨ ∃ q, all8.ownBlock = some q ∧ w7.heap.size ≤ q) → BltX w.heap.size w W3 W3.heap.size n (k + 1) S (simCells n MB LB BB') LB RB lc w2.heap.size all8 w8) := fun v1 w7 g1 g2 g3 all8 w8 g4 g5 g6 =>
                  HB.out.next f4 tb4 (by rw [Array.size_setIfInBounds]; exact HB.out.tsz) (fun i hi => by
                    by_cases e : f * n + t = i
                    · exact ⟨t1, by rw [← e, Array.getElem?_setIfInBounds_self_of_lt (by rw [HB.out.tsz]; exact hidxN)], ht1⟩
                    · rw [Array.getElem?_setIfInBounds_ne e]
                      exact HB.out.tval i hi) ht1 hf ht hft rfl Q6 r5 r3 r7 r4 r9 (orMap r8 id (fun h => Nat.le_trans f5.size h)) fr46 g1 g2 g3 g4 g5 g6
                clear L6 Q6 dRS dRL hnB L4 Q4 Q5 hrow5 hslotRow hmemL hvs hnew hdk hAk hFw hlen r5 r3 r7 r4 r9 r8 fr6 fr46 f4 tb4 f5 b5 q134
                go_upto_region 25 with fail
                go_cut [22] (fun s22 wx => s22 = .pointer (some ⟨W4.heap.size, 0, none⟩) ∧ ∃ v1, Blk wx (RB f) ((rc f).setIfInBounds t v1) 24 ∧ wx.ownsRow W3.heap.size 35 1 v1 ((ls f t).length + 1) ((ls f t ++ [k]).map (ptr (ext A k W4.heap.size))) ∧ Frm (fun q => q = RB f ∨ (lv f t).ownBlock = some q) w6 wx ∧ (v1.ownBlock = (lv f t).ownBlock ∨ ∃ q, v1.ownBlock = some q ∧ w6.heap.size ≤ q))
                case first =>
                  rw [show Op.load 24 (Operand.tmp 168) = later (Op.load 24 (Operand.tmp 168)) from rfl]
                  go_region_held3 (fun w' => w'.cell? ⟨S, 134, none⟩ = some (.slice (some ⟨LB, 0, none⟩) n n) ∧ w'.cell? ⟨LB, f, none⟩ = some (.slice (some ⟨RB f, 0, none⟩) n n)) (go_keep) (first
                    | (refine step_append_src _ (by rfl) _ _ 24 24 (by rfl) W3.heap.size 35 j0 _ 1 8 Ybaf.underlying24 hj0 hjz hjs hjb rfl (.slice pl (ls f t).length cl) _ _ (by rfl) (by exact ownL.alloc _) _ (by rfl) 1 [.pointer (some ⟨W4.heap.size, 0, none⟩)] (src_new (t := 35) Ybaf.underlying24 rfl rfl) (by omega) (by omega) (by simp; omega) ?_; intro v1 w7 own7 gw7 hat7; have g7 : Frm (fun j => (Value.slice pl (ls f t).length cl).ownBlock = some j) w6 w7 := ((Frm.refl _ w6).alloc _).drew.trans (Frm.grown gw7) (fun _ _ h => h); obtain ⟨⟨k1, k2⟩, k3, k4⟩ := (kp.out w7 g7); obtain ⟨pv1, cv1, rfl, _, _, _⟩ := owns_form own7))
                  all_goals
                    go_wp2_with fail
                    go_meet
                    have b7 := g7.blk (H6.out.rb f hf) (fun e => by have := HN.out _ e; omega)
                    have f8 : Frm (fun q => q = RB f) w7 (w7.setCell ⟨RB f, t, none⟩ (.slice pv1 ((ls f t).length + 1) cv1)) := (Frm.refl (fun q => q = RB f) w7).setCell ⟨RB f, t, none⟩ _ (fun _ => rfl)
                    have o8 := f8.owns own7 (fun q hq e => by have := (own7.lt q hq).1; omega)
                    refine ⟨rfl, _, b7.same t _, ?_, ?_, ?_⟩
                    · rw [List.map_append, List.map_singleton]
                      unfold ptr
                      rw [ext_new]
                      exact o8
                    · refine (g7.mono (fun q _ e => .inr ?_)).trans f8 (fun q _ e => .inl e)
                      rw [hlv]
                      exact e
                    · rw [hlv]
                      rcases hat7 with e | e
                      · exact .inl e
                      · exact .inr ⟨_, e, by simp⟩
                case rest =>
                  obtain ⟨rfl, v1, hR7, own7, fr7, hat7⟩ := hcut
                  obtain ⟨w7, rfl⟩ : ∃ x, x = wc := ⟨wc, rfl⟩
                  have hBL7 := H6.out.put hf ht (by omega) hR7 own7 fr7 hat7
                  have all7 : w7.ownsRow W3.heap.size 35 1 u16 k ((List.range k).map (ptr A)) := fr7.owns HAL.out (fun q hq e => by
                    rcases e with e | e
                    · have := (HAL.out.lt q hq).1
                      omega
                    · exact HB.out.allL f t hf ht q hq e)
                  have HN7 : Hid (∀ (all8 : Value) (w8 : World), w8.ownsRow W3.heap.size 35 1 all8 (k + 1) ((List.range k).map (ptr A) ++ [.pointer (some ⟨W4.heap.size, 0, none⟩)]) → Frm (fun q => u16.ownBlock = some q) w7 w8 → (all8.ownBlock = u16.ownBlock ∨ ∃ q, all8.ownBlock = some q ∧ w7.heap.size ≤ q) → BltX w.heap.size w W3 W3.heap.size n (k + 1) S (simCells n MB LB BB') LB RB lc w2.heap.size all8 w8) := HNX.out v1 w7 hBL7 fr7 hat7
                  have hB7 : W3.heap.size ≤ w7.heap.size := Nat.le_trans hB6 fr7.size
                  have HA7 : Hid (w7.ownsRow W3.heap.size 35 1 u16 k ((List.range k).map (ptr A))) := all7
                  clear hBL7 all7 HNX hR7 own7 fr7 hat7 H6 HQ6 HD HN off1 off2 n1 n2 cLa kp cRow cLink fLink c134 ownL hlv HAL
                  obtain ⟨pa, ca, rfl, _, _, _⟩ := owns_form HA7.out
                  go_wp2_with (at_builtin; refine wpList_append_src _ rfl _ _ 24 24 rfl W3.heap.size 35 j0 _ 1 8 Ybaf.underlying24 hj0 hjz hjs hjb rfl _ _ _ rfl (HA7.out.alloc _) _ rfl 1 [.pointer (some ⟨W4.heap.size, 0, none⟩)] (src_new0 (t := 35) Ybaf.underlying24 rfl) (by omega) (by omega) (by simp; omega) ?_; intro v2 w8 own8 gw8 hat8)
                  have hfin := HN7.out v2 w8 own8 (((Frm.refl _ w7).alloc _).trans (Frm.grown gw8) (fun _ _ h => h)) (orMap hat8 id (fun h => ⟨_, h, by simp⟩))
                  exact ⟨⟨k + 1, hlt, rfl, hfin⟩, by simp [intOf]; omega⟩
        · obtain rfl : k = l1 := by omega
          obtain ⟨A, d, cs, hs, ix, F0, F1, rc, lv, ls, tc, hB⟩ := hX
          have hlt' : ¬ (k : Int) < k := by omega
          obtain ⟨pa, ca, rfl, _, _, _⟩ := owns_form hB.all
          have hz133 : cs[133]? = some (.int .i64 0) := (hB.csK 133 (by omega)).trans ((simCells_get (by decide) (by decide) (by decide)).trans (by kernel_rfl))
          have hz139 : cs[139]? = some (.int .u64 0) := (hB.csK 139 (by omega)).trans ((simCells_get (by decide) (by decide) (by decide)).trans (by kernel_rfl))
          have c133 := (hB.q.blk.cell 133).trans hz133
          have c139 := (hB.q.blk.cell 139).trans hz139
          have z133 := hB.q.blk.frozen 133
          have z139 := hB.q.blk.frozen 139
          have hkw : IntKind.u64.wrap (k : Int) = k := by rw [IntKind.wrap_u64]; omega
          have hend : Hid (Built w n k S (.slice pa k ca) ((wr.setCell ⟨S, 133, none⟩ (.int .i64 k)).setCell ⟨S, 139, none⟩ (.int .u64 k))) := by
            obtain ⟨⟨g1, g2, g3⟩, g4, g5, g6⟩ := HW3.out
            exact hB.built rfl (by omega) hl1 hT g1 g2 g3 g4 g5 g6 (fun i hi => by
              obtain rfl | rfl | rfl | rfl : i = 0 ∨ i = 1 ∨ i = 2 ∨ i = 3 := by omega
              all_goals exact ⟨_, rfl⟩) ((hB.q.blk.same 133 _).same 139 _) (((Frm.refl (fun j => j = S) wr).setCell ⟨S, 133, none⟩ _ (fun _ => rfl)).setCell ⟨S, 139, none⟩ _ (fun _ => rfl))
          clear hB hp1 hp2 hp3
          go_wp2_with fail
          go_ret3
          exact ⟨n, S, _, rfl, by omega, by omega, hend.out⟩
end Go.Proofs.YbulkaryoFmt
