/-
  LawS2172BDrain.
-/
import Derived.Test.YbulkaryoFmtDr
import Derived.Test.YbulkaryoFmtBuild
namespace Go.Proofs.YbulkaryoFmt
open Go.RowKit
set_option maxRecDepth 100000 in
set_option maxHeartbeats 4000000 in
theorem drain_ok (a : Nat) (ha : a < 256) (v1 v2 : Value) (l1 l2 : Nat) (x1 x2 : Nat → Nat) (w : World) (hv1 : ByteArg w w.heap.size v1 l1 x1) (hv2 : ByteArg w w.heap.size v2 l2 x2) (hl2 : l2 ≤ 140737488355328) (h0 : 0 < w.heap.size) (hT : TabAt w) :
    Calls Ybaf.prog 3 #[.int .u8 a, v1, v2] w fun en w' => en = .returned (.bool true) ∧ Frm (fun j => w.heap.size ≤ j) w w' := by
  have HV1 : Hid (ByteArg w w.heap.size v1 l1 x1) := hv1
  have HV2 : Hid (ByteArg w w.heap.size v2 l2 x2) := hv2
  obtain ⟨p1, c1, rfl, _⟩ := hv1
  obtain ⟨p2, c2, rfl, _⟩ := hv2
  by_cases h256 : 256 < l1
  · have h256' : (256 : Int) < l1 := by omega
    go_enter Ybaf.func3, Ybaf.ntmps3
    go_wp2_with fail
    go_ret
    exact ⟨rfl, Frm.refl _ _⟩
  have h256' : ¬ (256 : Int) < l1 := by omega
  by_cases hz : l1 = 0
  · have hz' : (l1 : Int) = 0 := by omega
    go_enter Ybaf.func3, Ybaf.ntmps3
    go_wp2_with fail
    go_ret
    exact ⟨rfl, Frm.refl _ _⟩
  have hz' : ¬ (l1 : Int) = 0 := by omega
  have HT : Hid (TabAt w) := hT
  clear hT
  go_enter Ybaf.func3, Ybaf.ntmps3
  go_upto_region 6 with (go_at_call 5; refine (build_ok a ha _ _ _ l1 l2 0 x1 x2 (fun _ => false) w HV1.out HV2.out ⟨⟨none, 0, rfl, fun h => by omega⟩⟩ (by omega) hl2 (by omega) h0 HT.out).mono ?_; rintro e w1 ⟨n, S, allv, rfl, hn2, hn4, hBu⟩; clear HV1 HV2 HT)
  obtain ⟨K, B, A, d, cs, hs, ix, F0, F1, LB, RB, lc, rc, lv, ls, M, own, _, ⟨c136, c137, _, _⟩, kLow, kAll, kBig, hBz, hfr, _⟩ := hBu
  obtain ⟨m, rfl⟩ : ∃ m, m = l1 := ⟨l1, rfl⟩
  have hm : m ≤ 256 := by omega
  have hm0 : 0 < m := by omega
  obtain ⟨ab, ca, hall, hab⟩ : ∃ ab ca, allv = .slice (some ⟨ab, 0, none⟩) m ca ∧ ab < w1.heap.size := by
    rcases own.2 with ⟨_, h⟩ | ⟨g, cap, cur, h, _, hg, _⟩
    · omega
    · exact ⟨g, cap, h, lt_of_heap hg⟩
  have mk27 := run_make_row' (P := Ybaf.prog) 27 4 _ 1 Ybaf.underlying27 info4 rfl .i64 .i64 m (by omega) (by omega)
  have hm' : (m : Int) ≤ 256 := by omega
  have HK : Hid (K w1.heap.size ∧ (∀ q, allv.ownBlock = some q → K q) ∧ (∀ q, q < w.heap.size → K q) ∧ w.heap.size ≤ w1.heap.size ∧ (∀ q, allv.ownBlock = some q → q ≠ w1.heap.size) ∧ w1.heap.size ≠ 0 ∧ allv = .slice (some ⟨ab, 0, none⟩) m ca) := ⟨kBig _ (Nat.le_refl _), kAll, kLow, hfr.size, fun q hq e => by rw [hall] at hq; have : ab = q := Option.some.inj hq; omega, by have := hfr.size; omega, hall⟩
  have HDr : Hid (DrX w K B n m A d S LB RB lc allv w1.heap.size 0 (w1.alloc (.cells (madeCells #[.bool false] m) 4))) := ⟨cs, hs, ix, F0, F1, rc, lv, ls, 0, fun _ => true, _, {
    sim := M.frm (P := fun _ => False) ((Frm.refl _ w1).alloc _) (fun _ h => h.elim) id id
    c136 := c136
    c137 := c137
    ge := fun _ _ _ => Nat.zero_le _
    tot := by rw [total_all]; rfl
    g := Blk.new w1 _ 4
    gv := fun j hj => by simp [madeCells, hj, Nat.mod_one]
    all := ((Frm.refl (fun _ => False) w1).alloc _).owns own (fun _ _ => id)
    frm := hfr.trans ((Frm.refl (fun _ => False) w1).alloc _) (fun _ _ h => h.elim) }⟩
  clear M own kLow kAll kBig hBz hfr c136 c137 hab
  subst hall
  go_upto_block 0 with fail
  go_wp2_with fail
  go_loopw [12] (fun i wr => ∃ k : Nat, k ≤ m ∧ i = .int .i64 k ∧ DrX w K B n m A d S LB RB lc (.slice (some ⟨ab, 0, none⟩) m ca) w1.heap.size k wr) (fun i _ => m - (intOf i).toNat)
  case atStart => exact ⟨0, Nat.zero_le _, rfl, HDr.out⟩
  case round =>
    obtain ⟨k, hk, rfl, hX⟩ := hrel
    have HX : Hid (DrX w K B n m A d S LB RB lc (.slice (some ⟨ab, 0, none⟩) m ca) w1.heap.size k wr) := hX
    clear hX HDr mk27
    by_cases hlt : k < m
    · have hlt' : (k : Int) < m := by omega
      obtain ⟨cs, hs, ix, F0, F1, rc, lv, ls, now, rem, gc, hD⟩ := HX.out
      have HD : Hid (Dr w K B n m A d S LB RB lc (.slice (some ⟨ab, 0, none⟩) m ca) w1.heap.size k cs hs ix F0 F1 rc lv ls now rem gc wr) := hD
      clear hD HX
      go_upto_block 2 with fail
      go_cut [13] (fun s13 wx => ∃ (b q : Nat), s13 = .int .i64 b ∧ wx = wr.drewN q ∧ b < m ∧ rem b = true ∧ ∀ y, y < m → rem y = true → key d b ≤ key d y)
      case first =>
        go_wp2_with fail
        go_loopw [13, 14] (fun s13 i wx => ∃ (j q : Nat), j ≤ m ∧ i = .int .i64 j ∧ wx = wr.drewN q ∧ ((s13 = .int .i64 (-1) ∧ ∀ y, y < j → rem y = false) ∨ ∃ b : Nat, s13 = .int .i64 b ∧ b < j ∧ rem b = true ∧ ∀ y, y < j → rem y = true → key d b ≤ key d y)) (fun _ i _ => m - (intOf i).toNat)
        case atStart => exact ⟨0, 0, Nat.zero_le _, rfl, rfl, .inl ⟨rfl, fun y hy => by omega⟩⟩
        case round =>
          obtain ⟨j, q, hj, rfl, hwx, hbest⟩ := hrel
          subst hwx
          by_cases hjm : j < m
          · have hjm' : (j : Int) < m := by omega
            have hj0 : (0 : Int) ≤ j := by omega
            have DQ := HD.out.drewN q
            have cg := (DQ.g.cell j).trans (DQ.gv j hjm)
            have cj := HD.out.at_ rfl hjm
            have aj := HD.out.sim.q.arr.blk j hjm
            have aj0 := (aj.cell 0).trans (show _ = some (.int .i64 ((d j).at_ : Int)) from rfl)
            have aj1 := (aj.cell 1).trans (show _ = some (.int .u64 (j : Int)) from rfl)
            clear DQ aj
            cases hrj : rem j with
            | false =>
              rw [hrj] at cg
              have HH : Hid (((u13 = Value.int .i64 (-1) ∧ ∀ y, y < j + 1 → rem y = false) ∨ ∃ b : Nat, u13 = .int .i64 b ∧ b < j + 1 ∧ rem b = true ∧ ∀ y, y < j + 1 → rem y = true → key d b ≤ key d y)) := by
                rcases hbest with ⟨h1, h2⟩ | ⟨b, h1, h2, h3, h4⟩
                · refine .inl ⟨h1, fun y hy => ?_⟩
                  by_cases e : y = j
                  · rw [e]; exact hrj
                  · exact h2 y (by omega)
                · refine .inr ⟨b, h1, by omega, h3, fun y hy hr => ?_⟩
                  by_cases e : y = j
                  · rw [e, hrj] at hr; cases hr
                  · exact h4 y (by omega) hr
              clear hbest
              go_wp2_with fail
              exact ⟨⟨j + 1, q, hjm, rfl, rfl, HH.out⟩, by simp [intOf]; omega⟩
            | true =>
              rw [hrj] at cg
              rcases hbest with ⟨rfl, h2⟩ | ⟨b, rfl, h2, h3, h4⟩
              · have HH : Hid (∀ y, y < j + 1 → rem y = true → key d j ≤ key d y) := fun y hy hr => by
                  by_cases e : y = j
                  · rw [e]; exact Nat.le_refl _
                  · rw [h2 y (by omega)] at hr; cases hr
                clear h2
                go_upto_region 16 with fail
                go_quiet (fail)
                go_wp2_with fail
                exact ⟨⟨j + 1, _, hjm, rfl, rfl, .inr ⟨j, rfl, by omega, hrj, HH.out⟩⟩, by simp [intOf]; omega⟩
              · have hbm : b < m := by omega
                have hb0 : (0 : Int) ≤ b := by omega
                have hbm' : (b : Int) < m := by omega
                have cb := HD.out.at_ rfl hbm
                have ab0 := ((HD.out.sim.q.arr.blk b hbm).cell 0).trans (show _ = some (.int .i64 ((d b).at_ : Int)) from rfl)
                have ab1 := ((HD.out.sim.q.arr.blk b hbm).cell 1).trans (show _ = some (.int .u64 (b : Int)) from rfl)
                have hbn : decide ((b : Int) < 0) = false := decide_eq_false (by omega)
                have hjb : decide ((j : Int) < b) = false := decide_eq_false (by omega)
                have hjb2 : ¬ (j : Int) < b := by omega
                have hbn2 : ¬ (b : Int) < 0 := by omega
                have H4 : Hid (∀ y, y < j → rem y = true → key d b ≤ key d y) := h4
                clear h4
                by_cases c1 : (d j).at_ < (d b).at_
                · have HH : Hid (∀ y, y < j + 1 → rem y = true → key d j ≤ key d y) := fun y hy hr => by
                    by_cases e : y = j
                    · rw [e]; exact Nat.le_refl _
                    · have := H4.out y (by omega) hr
                      unfold key at this ⊢
                      omega
                  have c1' : ((d j).at_ : Int) < (d b).at_ := by omega
                  go_upto_region 16 with fail
                  go_quiet (fail)
                  go_wp2_with fail
                  exact ⟨⟨j + 1, _, hjm, rfl, rfl, .inr ⟨j, rfl, by omega, hrj, HH.out⟩⟩, by simp [intOf]; omega⟩
                · have HH : Hid (∀ y, y < j + 1 → rem y = true → key d b ≤ key d y) := fun y hy hr => by
                    by_cases e : y = j
                    · rw [e]
                      unfold key
                      omega
                    · exact H4.out y (by omega) hr
                  have c1' : decide (((d j).at_ : Int) < (d b).at_) = false := decide_eq_false (by omega)
                  have c1'' : ¬ ((d j).at_ : Int) < (d b).at_ := by omega
                  by_cases c2 : (d j).at_ = (d b).at_
                  · have c2' : ((d j).at_ : Int) = (d b).at_ := by omega
                    go_upto_region 16 with fail
                    go_quiet (fail)
                    go_wp2_with fail
                    exact ⟨⟨j + 1, _, hjm, rfl, rfl, .inr ⟨b, rfl, by omega, h3, HH.out⟩⟩, by simp [intOf]; omega⟩
                  · have c2' : (((d j).at_ : Int) == (d b).at_) = false := beq_eq_false_iff_ne.2 (by omega)
                    have c2'' : ¬ ((d j).at_ : Int) = (d b).at_ := by omega
                    go_upto_region 16 with fail
                    go_quiet (fail)
                    go_wp2_with fail
                    exact ⟨⟨j + 1, _, hjm, rfl, rfl, .inr ⟨b, rfl, by omega, h3, HH.out⟩⟩, by simp [intOf]; omega⟩
          · obtain rfl : j = m := by omega
            have hjj : ¬ (j : Int) < j := by omega
            have HH : Hid (∃ (b q' : Nat), u13 = .int .i64 b ∧ wr.drewN q = wr.drewN q' ∧ b < j ∧ rem b = true ∧ ∀ y, y < j → rem y = true → key d b ≤ key d y) := by
              rcases hbest with ⟨h1, h2⟩ | ⟨b, h1, h2, h3, h4⟩
              · have := total_none h2
                have := HD.out.tot
                omega
              · exact ⟨b, q, h1, rfl, h2, h3, h4⟩
            clear hbest
            go_wp2_with fail
            go_meet
            exact HH.out
      case rest =>
        obtain ⟨b, q, rfl, hwc, hb, hrb, hle⟩ := hcut
        rw [hwc]
        clear hwc wc
        have HL : Hid (∀ y, y < m → rem y = true → key d b ≤ key d y) := hle
        clear hle
        have hb0 : (0 : Int) ≤ b := by omega
        have hb' : (b : Int) < m := by omega
        have cb := HD.out.at_ rfl hb
        have bb := HD.out.sim.q.arr.blk b hb
        have ab0 := (bb.cell 0).trans (show _ = some (.int .i64 ((d b).at_ : Int)) from rfl)
        have ab2 := (bb.cell 2).trans (show _ = some (.int .i64 ((d b).fr : Int)) from rfl)
        have ab3 := (bb.cell 3).trans (show _ = some (.int .i64 ((d b).tt : Int)) from rfl)
        clear bb
        go_upto_region 20 with fail
        go_quiet (fail)
        go_upto_region 21 with fail
        go_name_world W2 hW2
        have DW : Hid (Dr w K B n m A d S LB RB lc (.slice (some ⟨ab, 0, none⟩) m ca) w1.heap.size k cs hs ix F0 F1 rc lv ls now rem gc W2) := hW2 ▸ (HD.out.drewN q).drewN nq
        clear hW2 cb ab0 ab2 ab3 HD
        have cg := (DW.out.g.cell b).trans (DW.out.gv b hb)
        have fg := DW.out.g.frozen b
        go_upto_region 22 with fail
        go_name_world W3 hW3
        have f3 : Frm (fun j => j = w1.heap.size) W2 W3 := hW3 ▸ (Frm.refl (fun j => j = w1.heap.size) W2).setCell ⟨w1.heap.size, b, none⟩ _ (fun _ => rfl)
        have g3 : Blk W3 w1.heap.size (gc.setIfInBounds b (.bool true)) 4 := hW3 ▸ DW.out.g.same b _
        clear hW3 cg fg
        obtain ⟨k1, k2, k3, k4, k5, k6, _⟩ := HK.out
        have MS : Hid (Sim K W3 B n m A d S cs hs ix F0 F1 true LB RB lc rc lv ls now rem) := DW.out.mark k1 k6 f3
        have HF3 : Hid (Frm (fun j => j = w1.heap.size) W2 W3 ∧ Blk W3 w1.heap.size (gc.setIfInBounds b (.bool true)) 4) := ⟨f3, g3⟩
        clear f3 g3 k1 k2 k3 k4 k5 k6
        go_upto_region 23 with (go_at_call 6; refine (next_drain MS.out DW.out.c136 DW.out.c137 DW.out.ge hb hrb).mono ?_; rintro e w4 ⟨x, rfl, ⟨hx, hrx, hlx⟩, hgone⟩)
        have hxb : x = b := key_inj (by omega) (by omega) (Nat.le_antisymm (hlx b hb hrb) (HL.out x hx hrx))
        subst hxb
        obtain ⟨k1, k2, k3, k4, k5, k6, _⟩ := HK.out
        obtain ⟨cs4, hs4, ix4, G0, G1, rc4, lv4, ls4, D4⟩ := DW.out.next k1 k2 k3 k4 k5 hx hrx hlx HF3.out.1 HF3.out.2 hgone
        obtain ⟨gc4, hgc4⟩ : ∃ g, g = gc.setIfInBounds x (.bool true) := ⟨_, rfl⟩
        rw [← hgc4] at D4
        obtain ⟨rem4, hrem4⟩ : ∃ r, r = without rem x := ⟨_, rfl⟩
        rw [← hrem4] at D4
        have H4 : Hid (Dr w K B n m A d S LB RB lc (.slice (some ⟨ab, 0, none⟩) m ca) w1.heap.size (k + 1) cs4 hs4 ix4 G0 G1 rc4 lv4 ls4 (d x).at_ rem4 gc4 w4) := D4
        clear D4 hgone hlx MS HF3 DW k1 k2 k3 k4 k5 k6 hgc4 hrem4 HL
        have hfits := H4.out.sim.fits x hx
        have hf' : ((d x).fr : Int) < n := by omega
        have ht' : ((d x).tt : Int) < n := by omega
        have hf0 : (0 : Int) ≤ (d x).fr := by omega
        have ht0 : (0 : Int) ≤ (d x).tt := by omega
        have c2 := (H4.out.sim.q.blk.cell 2).trans H4.out.sim.c2
        have c133 : w4.cell? ⟨S, 133, none⟩ = some (.int .i64 ((m : Int) - 1 - k)) := by
          rw [H4.out.sim.q.blk.cell 133, H4.out.sim.c133, show (total m rem4 : Int) = (m : Int) - 1 - k by have := H4.out.tot; omega]
        have ns := neq_same ⟨A x, 0, none⟩
        have hkm : (k : Int) + 1 ≤ m := by omega
        go_upto_block 4 with fail
        clear c2 c133 ns
        go_cut [20] (fun s20 wx => s20 = .int .i64 ((onLink m d rem4 (d x).fr (d x).tt).length : Nat) ∧ wx = w4)
        case first =>
          go_wp2_with fail
          go_loopw [20, 21] (fun s20 i wx => ∃ j : Nat, j ≤ m ∧ i = .int .i64 j ∧ wx = w4 ∧ s20 = .int .i64 ((onLink j d rem4 (d x).fr (d x).tt).length : Nat)) (fun _ i _ => m - (intOf i).toNat)
          case atStart => exact ⟨0, Nat.zero_le _, rfl, rfl, rfl⟩
          case round =>
            obtain ⟨j, hj, rfl, hwx, rfl⟩ := hrel
            subst hwx
            by_cases hjm : j < m
            · have hjm' : (j : Int) < m := by omega
              have hj0 : (0 : Int) ≤ j := by omega
              have hst := onLink_step (j := j) (d := d) (rem := rem4) (f := (d x).fr) (t := (d x).tt)
              have hle := onLink_le (j := j) (d := d) (rem := rem4) (f := (d x).fr) (t := (d x).tt)
              obtain ⟨L, hL⟩ : ∃ L, L = (onLink j d rem4 (d x).fr (d x).tt).length := ⟨_, rfl⟩
              rw [← hL] at hst hle
              rw [← hL]
              have HST : Hid ((onLink (j + 1) d rem4 (d x).fr (d x).tt).length = L + if (rem4 j && ((d j).fr == (d x).fr && (d j).tt == (d x).tt)) = true then 1 else 0) := hst
              have hL2 : (L : Int) ≤ 256 := by omega
              clear hst hL
              have cg := (H4.out.g.cell j).trans (H4.out.gv j hjm)
              have cj := H4.out.at_ rfl hjm
              have aj := H4.out.sim.q.arr.blk j hjm
              have aj2 := (aj.cell 2).trans (show _ = some (.int .i64 ((d j).fr : Int)) from rfl)
              have aj3 := (aj.cell 3).trans (show _ = some (.int .i64 ((d j).tt : Int)) from rfl)
              clear aj
              cases hrj : rem4 j with
              | false =>
                rw [hrj] at cg
                have HH : Hid ((onLink (j + 1) d rem4 (d x).fr (d x).tt).length = L) := by
                  rw [HST.out, hrj]
                  rfl
                go_wp2_with fail
                exact ⟨⟨j + 1, hjm, rfl, trivial, by rw [HH.out]⟩, by simp [intOf]; omega⟩
              | true =>
                rw [hrj] at cg
                by_cases c1 : (d j).fr = (d x).fr
                · have c1' : ((d j).fr : Int) = (d x).fr := by omega
                  by_cases c2 : (d j).tt = (d x).tt
                  · have c2' : ((d j).tt : Int) = (d x).tt := by omega
                    have HH : Hid ((onLink (j + 1) d rem4 (d x).fr (d x).tt).length = L + 1) := by
                      rw [HST.out, hrj, if_pos (by simp [c1, c2])]
                      rfl
                    clear c1 c2
                    go_wp2_with fail
                    exact ⟨⟨j + 1, hjm, rfl, trivial, by rw [HH.out]; rfl⟩, by simp [intOf]; omega⟩
                  · have c2' : ¬ ((d j).tt : Int) = (d x).tt := by omega
                    have c2b : (((d j).tt : Int) == (d x).tt) = false := beq_eq_false_iff_ne.2 c2'
                    have HH : Hid ((onLink (j + 1) d rem4 (d x).fr (d x).tt).length = L) := by
                      rw [HST.out, hrj, if_neg (by simp [c2])]
                      rfl
                    clear c1 c2
                    go_wp2_with fail
                    exact ⟨⟨j + 1, hjm, rfl, trivial, by rw [HH.out]⟩, by simp [intOf]; omega⟩
                · have c1' : ¬ ((d j).fr : Int) = (d x).fr := by omega
                  have c1b : (((d j).fr : Int) == (d x).fr) = false := beq_eq_false_iff_ne.2 c1'
                  have HH : Hid ((onLink (j + 1) d rem4 (d x).fr (d x).tt).length = L) := by
                    rw [HST.out, hrj, if_neg (by simp [c1])]
                    rfl
                  clear c1
                  go_wp2_with fail
                  exact ⟨⟨j + 1, hjm, rfl, trivial, by rw [HH.out]⟩, by simp [intOf]; omega⟩
            · obtain rfl : j = m := by omega
              have hjj : ¬ (j : Int) < j := by omega
              go_wp2_with fail
              go_meet
              exact ⟨rfl, rfl⟩
        case rest =>
          obtain ⟨rfl, hwc⟩ := hcut
          rw [hwc]
          clear hwc wc
          have c134 := (H4.out.sim.q.blk.cell 134).trans H4.out.sim.c134
          have cRow := (H4.out.sim.l.lb.cell _).trans (H4.out.sim.l.row _ hfits.2.1)
          obtain ⟨⟨pl, cl, hlv, _⟩, _⟩ := H4.out.sim.l.at_ _ _ hfits.2.1 hfits.2.2
          have cLink := ((H4.out.sim.l.rb _ hfits.2.1).cell (d x).tt).trans (H4.out.sim.l.cell _ _ hfits.2.1 hfits.2.2)
          rw [hlv, H4.out.sim.lens _ _ hfits.2.1 hfits.2.2] at cLink
          have HE : Hid (DrX w K B n m A d S LB RB lc (.slice (some ⟨ab, 0, none⟩) m ca) w1.heap.size (k + 1) w4) := ⟨_, _, _, _, _, _, _, _, _, _, _, H4.out⟩
          clear H4 hlv
          go_wp2_with fail
          exact ⟨⟨k + 1, hlt, rfl, HE.out⟩, by simp [intOf]; omega⟩
    · obtain rfl : k = m := by omega
      have hkk : ¬ (k : Int) < k := by omega
      obtain ⟨cs, hs, ix, F0, F1, rc, lv, ls, now, rem, gc, hD⟩ := HX.out
      have c137 := (hD.sim.q.blk.cell 137).trans hD.c137
      have HF : Hid (Frm (fun j => w.heap.size ≤ j) w wr) := hD.frm
      clear hD HX
      go_wp2_with fail
      go_ret
      exact ⟨rfl, HF.out⟩
end Go.Proofs.YbulkaryoFmt
