/-
  LawS2172BSchedule.
-/
import Derived.Test.YbulkaryoFmtSc
import Derived.Test.YbulkaryoFmtBuild
namespace Go.Proofs.YbulkaryoFmt
open Go.RowKit Go.Extern.Stop Go.Stop Go.Extern

set_option maxRecDepth 100000 in
set_option maxHeartbeats 8000000 in
theorem sched_ok (F : Interp) (a : Nat) (ha : a < 256) (v1 v2 v3 v4 : Value) (l1 l2 l3 l4 : Nat) (x1 x2 : Nat → Nat) (x3 : Nat → Bool) (x4 : Nat → Nat) (w : World) (hF : F.answers w.tape) (hv1 : ByteArg w w.heap.size v1 l1 x1) (hv2 : ByteArg w w.heap.size v2 l2 x2) (hv3 : BoolArg w w.heap.size v3 l3 x3) (hv4 : ByteArg w w.heap.size v4 l4 x4) (hl2 : l2 ≤ 140737488355328) (hl3 : l3 ≤ 140737488355328) (h0 : 0 < w.heap.size) (hT : TabAt w) :
    Calls Ybaf.prog 4 #[.int .u8 a, v1, v2, v3, v4] w fun en w' => en = .returned (.bool true) ∧ Frm (fun j => w.heap.size ≤ j) w w' := by
  have HV1 : Hid (ByteArg w w.heap.size v1 l1 x1) := hv1
  have HV2 : Hid (ByteArg w w.heap.size v2 l2 x2) := hv2
  have HV3 : Hid (BoolArg w w.heap.size v3 l3 x3) := hv3
  have HV4 : Hid (ByteArg w w.heap.size v4 l4 x4) := hv4
  obtain ⟨p1, c1, rfl, _⟩ := hv1
  obtain ⟨p2, c2, rfl, _⟩ := hv2
  obtain ⟨p3, c3, rfl, _⟩ := hv3
  obtain ⟨p4, c4, rfl, _⟩ := hv4
  by_cases h256 : 256 < l1
  · have h256' : (256 : Int) < l1 := by omega
    go_enter Ybaf.func4, Ybaf.ntmps4
    go_wp2_with fail
    go_ret
    exact ⟨rfl, Frm.refl _ _⟩
  have h256' : ¬ (256 : Int) < l1 := by omega
  have h256b : decide ((256 : Int) < l1) = false := decide_eq_false h256'
  by_cases hz : 256 < l4
  · have hz' : (256 : Int) < l4 := by omega
    go_enter Ybaf.func4, Ybaf.ntmps4
    go_wp2_with fail
    go_ret
    exact ⟨rfl, Frm.refl _ _⟩
  have hz' : ¬ (256 : Int) < l4 := by omega
  have hzb : decide ((256 : Int) < l4) = false := decide_eq_false hz'
  have HT : Hid (TabAt w) := hT
  have HF : Hid (F.answers w.tape) := hF
  clear hT hF
  go_enter Ybaf.func4, Ybaf.ntmps4
  go_upto_region 4 with (go_at_call 5; refine (build_ok a ha _ _ _ l1 l2 l3 x1 x2 x3 w HV1.out HV2.out HV3.out (by omega) hl2 hl3 h0 HT.out).mono ?_; rintro e w1 ⟨n, S, allv, rfl, hn2, hn4, hBu⟩; clear HV1 HV2 HV3 HT)
  obtain ⟨K, B, A, d, cs, hs, ix, F0, F1, LB, RB, lc, rc, lv, ls, M, own, ⟨hls, hft⟩, ⟨c136, c137, c143, c144⟩, kLow, kAll, kBig, hBz, hfr, hMem⟩ := hBu
  obtain ⟨m, rfl⟩ : ∃ m, m = l1 := ⟨l1, rfl⟩
  have hm : m ≤ 256 := by omega
  have hm' : (m : Int) ≤ 256 := by omega
  have hns : l4 ≤ 256 := by omega
  have hns' : (l4 : Int) ≤ 256 := by omega
  obtain ⟨pa, ca, rfl, _, _, _⟩ := owns_form own
  have HK : Hid ((∀ q, q < w.heap.size → K q) ∧ (∀ q, (Value.slice pa m ca).ownBlock = some q → K q) ∧ (∀ q, w1.heap.size ≤ q → K q) ∧ B ≤ w1.heap.size ∧ Frm (fun j => w.heap.size ≤ j) w w1 ∧ Mems w1 n cs K ∧ w1.ownsRow B 35 1 (.slice pa m ca) m ((List.range m).map (ptr A)) ∧ (∀ x, x < m → (d x).fr ≠ (d x).tt)) := ⟨kLow, kAll, kBig, hBz, hfr, hMem, own, hft⟩
  have HC0 : Hid (cs[137]? = some (.int .i64 0) ∧ cs[143]? = some .nilIface ∧ cs[144]? = some .nilIface) := ⟨c137, c143, c144⟩
  have HS0 : Hid (ScdX w1 K B n m A d S LB RB lc cs hs ix F0 F1 rc lv ls 0 w1) := ⟨cs, .slice none 0 0, fun _ => 0, fun _ => 0, M.loose hls, fun _ _ => rfl, c136, World.ownsRow_nil _ _ _ _, fun i hi => by omega, Frm.refl _ _⟩
  clear M own hls hft c136 c137 c143 c144 kLow kAll kBig hBz hfr hMem
  have hn4' : (n : Int) ≤ 4 := by omega
  have hn2' : (2 : Int) ≤ n := by omega
  obtain ⟨j0, hj0, hjz, hjs, hjb⟩ := info_parts info57
  go_upto_block 0 with fail
  go_cut [14] (fun _ wx => ScdX w1 K B n m A d S LB RB lc cs hs ix F0 F1 rc lv ls l4 wx)
  case first =>
    go_wp2_with fail
    go_loopw [14] (fun i wr => ∃ k : Nat, k ≤ l4 ∧ i = .int .i64 k ∧ ScdX w1 K B n m A d S LB RB lc cs hs ix F0 F1 rc lv ls k wr) (fun i _ => l4 - (intOf i).toNat)
    case atStart => exact ⟨0, Nat.zero_le _, rfl, HS0.out⟩
    case round =>
      obtain ⟨k, hk, rfl, hX⟩ := hrel
      have HX : Hid (ScdX w1 K B n m A d S LB RB lc cs hs ix F0 F1 rc lv ls k wr) := hX
      clear hX HS0
      by_cases hlt : k < l4
      · obtain ⟨cs', schv, sf, st, hD⟩ := HX.out
        have hlt' : (k : Int) < l4 := by omega
        have hk0 : (0 : Int) ≤ k := by omega
        obtain ⟨p4', c4', hv4', hp4⟩ := HV4.out
        injection hv4' with e1 _ e3
        subst e1
        subst e3
        obtain ⟨b4, o4, rfl, hb4, hc4⟩ := hp4 (by omega)
        obtain ⟨y4, y4b⟩ := hc4 k hlt
        have cy : wr.cell? ⟨b4, o4 + k, none⟩ = some (.int .u8 (x4 k)) := by
          have h1 : w1.cell? ⟨b4, o4 + k, none⟩ = some (.int .u8 (x4 k)) := (HK.out.2.2.2.2.1.cell (a := ⟨b4, o4 + k, none⟩) hb4 (by show ¬ w.heap.size ≤ b4; omega)).trans y4
          have hlt1 := HK.out.2.2.2.2.1.size
          have hSk : ¬ K S := hD.sim.base.2.1
          refine (hD.frm.cell (a := ⟨b4, o4 + k, none⟩) (by show b4 < w1.heap.size; omega) (fun e => ?_)).trans h1
          rcases e with e | e
          · exact hSk (e ▸ HK.out.1 b4 hb4)
          · have e' : w1.heap.size ≤ b4 := e
            omega
        have HD : Hid (Scd w1 K B n m A d S LB RB lc cs hs ix F0 F1 rc lv ls k cs' schv sf st wr) := hD
        clear hD HX hc4 hp4
        go_upto_region 8 with (go_at_call 7; refine (link_ok n (x4 k) (by omega) (by omega) y4b _).mono ?_; rintro e w4 ⟨⟨f, t, rfl, hf, ht, hft⟩, hw4⟩; subst hw4)
        obtain ⟨ps, cps, rfl, _, _, _⟩ := owns_form HD.out.row
        have e136 := (HD.out.sim.q.blk.cell 136).trans HD.out.c136
        have hBw : w1.heap.size ≤ w4.heap.size := HD.out.frm.size
        have HR : Hid (w4.ownsRow w1.heap.size 57 2 (.slice ps k cps) k (flat sf st k)) := HD.out.row
        have HLT : Hid (f ≠ t) := hft
        clear hft cy y4
        go_wp2_with (at_builtin; refine wpList_append_src _ rfl _ _ 46 46 rfl w1.heap.size 57 j0 _ 2 16 Ybaf.underlying46 hj0 hjz hjs hjb rfl _ _ _ rfl (HR.out.alloc _) _ rfl 1 [.int .i64 f, .int .i64 t] (src_two (t := 57) Ybaf.underlying46 rfl rfl) (by omega) (by omega) (by simp; omega) ?_; intro v2 w8 own8 gw8 hat8; have fr8 : Frm (fun q => (Value.slice ps k cps).ownBlock = some q) w4 w8 := ((Frm.refl _ w4).alloc _).trans (Frm.grown gw8) (fun _ _ h => h); have S8 := fr8.blk HD.out.sim.q.blk (fun e => by have := (HR.out.lt _ e).1; have := HD.out.sim.q.low; have := HK.out.2.2.2.1; omega); have e8 := (S8.cell 136).trans HD.out.c136; have z8 := S8.frozen 136; have H8 : Hid (w8.ownsRow w1.heap.size 57 2 v2 (k + 1) (flat sf st k ++ [.int .i64 f, .int .i64 t]) ∧ Frm (fun q => (Value.slice ps k cps).ownBlock = some q) w4 w8 ∧ Blk w8 S cs' 51) := ⟨own8, fr8, S8⟩; obtain ⟨pv2, cv2, rfl, _, _, _⟩ := owns_form own8; clear own8 fr8 S8 gw8 hat8)
        have hfin := HD.out.put HK.out.2.2.1 HK.out.2.2.2.1 hf ht H8.out.1 H8.out.2.1 (H8.out.2.2.same 136 _) ((Frm.refl (fun q => q = S) w8).setCell ⟨S, 136, none⟩ _ (fun _ => rfl))
        exact ⟨⟨k + 1, hlt, rfl, hfin⟩, by simp [intOf]; omega⟩
      · obtain rfl : k = l4 := by omega
        have hkk : ¬ (k : Int) < k := by omega
        go_wp2_with fail
        go_meet
        exact HX.out
  case rest =>
    obtain ⟨cs', schv, sf, st, hD⟩ := hcut
    obtain ⟨w2, rfl⟩ : ∃ x, x = wc := ⟨wc, rfl⟩
    obtain ⟨ps, cps, rfl, _, _, _⟩ := owns_form hD.row
    have mk27 := run_make_row' (P := Ybaf.prog) 27 4 _ 1 Ybaf.underlying27 info4 rfl .i64 .i64 m (by omega) (by omega)
    obtain ⟨kLow, kAll, kBig, hBz, hfr, hMem, own, hft⟩ := HK.out
    have hSk : ¬ K S := hD.sim.base.2.1
    have hs12 := hD.frm.size
    have hs01 := hfr.size
    have HG : Hid (K w2.heap.size ∧ w2.heap.size ≠ 0 ∧ (∀ q, (Value.slice pa m ca).ownBlock = some q → K q) ∧ (∀ q, q < w.heap.size → K q) ∧ w.heap.size ≤ w2.heap.size ∧ (∀ x, x < m → (d x).fr ≠ (d x).tt) ∧ ∀ i, i < l4 → sf i < n ∧ st i < n) := ⟨kBig _ hs12, by omega, kAll, kLow, by omega, hft, hD.fits⟩
    have HSc : Hid (ScX w K B n m A d S LB RB lc pa ca w2.heap.size ps l4 cps sf st (w2.alloc (.cells (madeCells #[.bool false] m) 4))) := by
      have fa : Frm (fun _ => False) w2 (w2.alloc (.cells (madeCells #[.bool false] m) 4)) := (Frm.refl _ w2).alloc _
      have all2 : w2.ownsRow B 35 1 (.slice pa m ca) m ((List.range m).map (ptr A)) := hD.frm.owns own (fun q hq e => by
        have hq2 := own.lt q hq
        have := hD.sim.q.low
        omega)
      have mem2 : Mems w2 n cs' K := hMem.frm (hD.keep 0 (by decide)) hD.frm (fun q hq hk e => by
        rcases e with e | e
        · exact hSk (e ▸ hk)
        · omega)
      refine ⟨0, cs', hs, ix, F0, F1, rc, lv, ls, fun _ => true, _, {
        sim := hD.sim.frm fa (fun _ h => h.elim) id id
        c136 := hD.c136
        c137 := (hD.keep 137 (by decide)).trans HC0.out.1
        c143 := (hD.keep 143 (by decide)).trans HC0.out.2.1
        c144 := (hD.keep 144 (by decide)).trans HC0.out.2.2
        g := Blk.new w2 _ 4
        gv := fun j hj => by simp [madeCells, hj, Nat.mod_one]
        all := fa.owns all2 (fun _ _ => id)
        mems := mem2.frm rfl fa (fun _ _ _ => id)
        sch := fun h => ?_
        frm := (hfr.trans hD.frm (fun j hj e => ?_)).trans fa (fun _ _ e => e.elim) }⟩
      · rcases hD.row.2 with ⟨_, h'⟩ | ⟨g, cap, cur, hg, hgb, hgh, _, _, _, htake⟩
        · omega
        · injection hg with hg _ _
          refine ⟨g, cur, hg, kBig g hgb, fa.blk hgh id, fun i hi => ?_⟩
          obtain ⟨f1, f2⟩ := flat_get sf st l4 i hi
          rw [← htake, List.getElem?_take_of_lt (by omega)] at f1
          rw [← htake, List.getElem?_take_of_lt (by omega)] at f2
          exact ⟨by simpa using f1, by simpa using f2⟩
      · rcases e with e | e
        · exact (hSk (e ▸ kLow j hj)).elim
        · omega
    clear hD kLow kAll kBig hBz hfr hMem own hft HK HC0 HS0 HV4
    go_upto_block 2 with fail
    go_wp2_with fail
    go_loopw [19] (fun i wr => ∃ it : Nat, it ≤ l4 + m + 1 ∧ i = .int .i64 it ∧ ScX w K B n m A d S LB RB lc pa ca w2.heap.size ps l4 cps sf st wr) (fun i _ => l4 + m + 1 - (intOf i).toNat)
    case atStart => exact ⟨0, Nat.zero_le _, rfl, HSc.out⟩
    case round =>
      obtain ⟨it, hit, rfl, hX⟩ := hrel
      obtain ⟨step, cs2, hs2, ix2, G0, G1, rc2, lv2, ls2, rem, gc, hD⟩ := hX
      have HD : Hid (Sc w K B n m A d S LB RB lc pa ca w2.heap.size ps l4 cps sf st step cs2 hs2 ix2 G0 G1 rc2 lv2 ls2 rem gc wr) := hD
      have HFr : Hid (Frm (fun j => w.heap.size ≤ j) w wr) := hD.frm
      clear hD HSc mk27
      have e136 := (HD.out.sim.q.blk.cell 136).trans HD.out.c136
      have e137 := (HD.out.sim.q.blk.cell 137).trans HD.out.c137
      have e144 := (HD.out.sim.q.blk.cell 144).trans HD.out.c144
      by_cases hc1 : it ≤ l4 + m
      · have hc1' : (it : Int) ≤ (l4 : Int) + m := by omega
        have hc1n : decide ((it : Int) ≤ (l4 : Int) + m) = true := decide_eq_true hc1'
        by_cases hc2 : step < l4
        · have hc2' : (step : Int) < l4 := by omega
          have hc2n : decide ((step : Int) < l4) = true := decide_eq_true hc2'
          go_upto_region 12 with fail
          go_quiet (fail)
          go_upto_region 14 with fail
          go_name_world W3 hW3
          have HD3 : Hid (Sc w K B n m A d S LB RB lc pa ca w2.heap.size ps l4 cps sf st step cs2 hs2 ix2 G0 G1 rc2 lv2 ls2 rem gc W3) := hW3 ▸ HD.out.still ((Frm.refl _ wr).drewN _)
          clear hW3 HD HFr e136 e137 e144 hc1n hc2n
          have e137 := (HD3.out.sim.q.blk.cell 137).trans HD3.out.c137
          have e133 := (HD3.out.sim.q.blk.cell 133).trans HD3.out.sim.c133
          go_upto_block 4 with fail
          clear e137 e133
          go_cut [22] (fun s22 wx => wx = W3 ∧ ∃ o, s22 = .int .i64 (hInt o) ∧ LeadIn (hd m d rem) (fun x => (d x).cut) (fun f t => f < n ∧ t < n) o)
          case first =>
            go_wp2_with fail
            go_loopw [22, 23] (fun s22 i wx => ∃ (k : Nat) (o : Option Nat), k ≤ n ∧ i = .int .i64 k ∧ wx = W3 ∧ s22 = .int .i64 (hInt o) ∧ LeadIn (hd m d rem) (fun x => (d x).cut) (fun f t => f < k ∧ t < n) o) (fun _ i _ => n - (intOf i).toNat)
            case atStart => exact ⟨0, none, Nat.zero_le _, rfl, rfl, rfl, LeadIn.empty (fun f t h => by omega)⟩
            case round =>
              obtain ⟨k, o, hk, rfl, hwx, rfl, hlead⟩ := hrel
              rw [hwx]
              clear hwx
              have HL : Hid (LeadIn (hd m d rem) (fun x => (d x).cut) (fun f t => f < k ∧ t < n) o) := hlead
              clear hlead
              by_cases hkn : k < n
              · have hkn' : (k : Int) < n := by omega
                have hk0 : (0 : Int) ≤ k := by omega
                go_upto_block 6 with fail
                go_wp2_with fail
                go_loopw [22, 24] (fun s22 i wx => ∃ (j : Nat) (o' : Option Nat), j ≤ n ∧ i = .int .i64 j ∧ wx = W3 ∧ s22 = .int .i64 (hInt o') ∧ LeadIn (hd m d rem) (fun x => (d x).cut) (fun f t => (f < k ∧ t < n) ∨ (f = k ∧ t < j)) o') (fun _ i _ => n - (intOf i).toNat)
                case atStart => exact ⟨0, o, Nat.zero_le _, rfl, rfl, rfl, HL.out.congr (fun f t => ⟨.inl, fun h => by omega⟩)⟩
                case round =>
                  obtain ⟨j, o', hj, rfl, hwx, rfl, hlead⟩ := hrel
                  rw [hwx]
                  clear hwx
                  have HL2 : Hid (LeadIn (hd m d rem) (fun x => (d x).cut) (fun f t => (f < k ∧ t < n) ∨ (f = k ∧ t < j)) o') := hlead
                  clear hlead HL
                  by_cases hjn : j < n
                  · have hjn' : (j : Int) < n := by omega
                    have hj0 : (0 : Int) ≤ j := by omega
                    have HQ : Hid (∀ f t, ((f < k ∧ t < n) ∨ (f = k ∧ t < j + 1)) ↔ ((f < k ∧ t < n) ∨ (f = k ∧ t < j)) ∨ (f = k ∧ t = j)) := fun f t => by omega
                    by_cases hkj : k = j
                    · have HH : Hid (LeadIn (hd m d rem) (fun x => (d x).cut) (fun f t => (f < k ∧ t < n) ∨ (f = k ∧ t < j + 1)) o') := HL2.out.skip (fun y hy => by
                        obtain ⟨h1, _, h3, h4⟩ := hd_mem hy
                        exact absurd (h3.trans (hkj.trans h4.symm)) (HG.out.2.2.2.2.2.1 y h1)) HQ.out
                      have hkj' : (k : Int) = j := by omega
                      clear hkj
                      go_wp2_with fail
                      exact ⟨⟨j + 1, o', hjn, rfl, trivial, rfl, HH.out⟩, by simp [intOf]; omega⟩
                    · have hkj' : ¬ (k : Int) = j := by omega
                      have hkjb : ((k : Int) == j) = false := beq_eq_false_iff_ne.2 hkj'
                      have HHD : Hid (Calls Ybaf.prog 8 #[.slice pa m ca, .slice (some ⟨w2.heap.size, 0, none⟩) m m, .int .i64 k, .int .i64 j] W3 fun en w' => en = .returned (.int .i64 (hInt (hd m d rem k j))) ∧ w' = W3) := head_ok m A d rem k j pa ca w2.heap.size W3 hm HD3.out.hall (fun y hy => (HD3.out.g.cell y).trans (HD3.out.gv y hy)) (fun y hy => ((HD3.out.sim.q.arr.blk y hy).cell 2).trans rfl) (fun y hy => ((HD3.out.sim.q.arr.blk y hy).cell 3).trans rfl)
                      clear hkj
                      go_upto_region 25 with (go_at_call 8; refine HHD.out.mono ?_; rintro e w5 ⟨rfl, hw5⟩; rw [hw5]; clear hw5)
                      cases hhd : hd m d rem k j with
                      | none =>
                        have HH : Hid (LeadIn (hd m d rem) (fun x => (d x).cut) (fun f t => (f < k ∧ t < n) ∨ (f = k ∧ t < j + 1)) o') := HL2.out.skip (fun y hy => by rw [hhd] at hy; cases hy) HQ.out
                        have hi1 : hInt none = -1 := rfl
                        clear hhd
                        rw [hi1]
                        go_wp2_with fail
                        exact ⟨⟨j + 1, o', hjn, rfl, trivial, rfl, HH.out⟩, by simp [intOf]; omega⟩
                      | some y =>
                        obtain ⟨hym, _, _, _⟩ := hd_mem hhd
                        have hi1 : hInt (some y) = (y : Int) := rfl
                        have HYD : Hid (hd m d rem k j = some y) := hhd
                        clear hhd
                        rw [hi1]
                        obtain ⟨ab, rfl, cy⟩ := HD3.out.hall y hym
                        have hy0 : (0 : Int) ≤ y := by omega
                        have hy0n : decide ((0 : Int) ≤ y) = true := decide_eq_true hy0
                        have hym' : (y : Int) < m := by omega
                        have cy7 := ((HD3.out.sim.q.arr.blk y hym).cell 7).trans (show _ = some (.bool (d y).cut) from rfl)
                        cases hcy : (d y).cut with
                        | false =>
                          rw [hcy] at cy7
                          have HH : Hid (LeadIn (hd m d rem) (fun x => (d x).cut) (fun f t => (f < k ∧ t < n) ∨ (f = k ∧ t < j + 1)) o') := HL2.out.skip (fun z hz => by
                            have : y = z := Option.some.inj (HYD.out.symm.trans hz)
                            rw [← this]
                            exact hcy) HQ.out
                          go_wp2_with fail
                          exact ⟨⟨j + 1, o', hjn, rfl, trivial, rfl, HH.out⟩, by simp [intOf]; omega⟩
                        | true =>
                          rw [hcy] at cy7
                          cases o' with
                          | none =>
                            have HH : Hid (LeadIn (hd m d rem) (fun x => (d x).cut) (fun f t => (f < k ∧ t < n) ∨ (f = k ∧ t < j + 1)) (some y)) := HL2.out.take HYD.out hcy (fun x hx => by cases hx) HQ.out
                            have hi2 : hInt none = -1 := rfl
                            rw [hi2]
                            go_wp2_with fail
                            exact ⟨⟨j + 1, some y, hjn, rfl, trivial, rfl, HH.out⟩, by simp [intOf]; omega⟩
                          | some x =>
                            have hi2 : hInt (some x) = (x : Int) := rfl
                            rw [hi2]
                            have hxn : ¬ (x : Int) < 0 := by omega
                            have hxnb : decide ((x : Int) < 0) = false := decide_eq_false hxn
                            by_cases hyx : y < x
                            · have HH : Hid (LeadIn (hd m d rem) (fun x => (d x).cut) (fun f t => (f < k ∧ t < n) ∨ (f = k ∧ t < j + 1)) (some y)) := HL2.out.take HYD.out hcy (fun z hz => by rw [← Option.some.inj hz]; omega) HQ.out
                              have hyx' : (y : Int) < x := by omega
                              go_wp2_with fail
                              exact ⟨⟨j + 1, some y, hjn, rfl, trivial, rfl, HH.out⟩, by simp [intOf]; omega⟩
                            · have HH : Hid (LeadIn (hd m d rem) (fun x => (d x).cut) (fun f t => (f < k ∧ t < n) ∨ (f = k ∧ t < j + 1)) (some x)) := HL2.out.keep HYD.out (by omega) HQ.out
                              have hyx' : ¬ (y : Int) < x := by omega
                              have hyxb : decide ((y : Int) < x) = false := decide_eq_false hyx'
                              go_wp2_with fail
                              exact ⟨⟨j + 1, some x, hjn, rfl, trivial, rfl, HH.out⟩, by simp [intOf]; omega⟩
                  · obtain rfl : j = n := by omega
                    have hjj : ¬ (j : Int) < j := by omega
                    go_wp2_with fail
                    exact ⟨⟨k + 1, o', hkn, rfl, trivial, rfl, HL2.out.congr (fun f t => by omega)⟩, by simp [intOf]; omega⟩
              · obtain rfl : k = n := by omega
                have hkk : ¬ (k : Int) < k := by omega
                go_wp2_with fail
                go_meet
                exact ⟨rfl, o, rfl, HL.out⟩
          case rest =>
            obtain ⟨hwc, o, rfl, hlead⟩ := hcut
            rw [hwc]
            clear hwc wc
            have HLD : Hid (LeadIn (hd m d rem) (fun x => (d x).cut) (fun f t => f < n ∧ t < n) o) := hlead
            clear hlead
            obtain ⟨sb, sc, rfl, hKsb, hsb, hget⟩ := HD3.out.sch (by omega)
            obtain ⟨g1, g2⟩ := hget step hc2
            have HSB : Hid (Blk W3 sb sc 57 ∧ sc[step * 2]? = some (.int .i64 (sf step)) ∧ sc[step * 2 + 1]? = some (.int .i64 (st step))) := ⟨hsb, g1, g2⟩
            clear hget hsb g1 g2
            obtain ⟨hsf, hst⟩ := HG.out.2.2.2.2.2.2 step hc2
            obtain ⟨f, hfe⟩ : ∃ f, f = sf step := ⟨_, rfl⟩
            obtain ⟨t, hte⟩ : ∃ t, t = st step := ⟨_, rfl⟩
            rw [← hfe] at HSB hsf
            rw [← hte] at HSB hst
            clear hfe hte
            go_upto_if 156 with fail
            go_cut [26, 27] (fun s26 s27 wx => ∃ (x step' : Nat), s26 = .int .i64 x ∧ s27 = .int .i64 step' ∧ ((o = some x ∧ step' = step) ∨ (o = none ∧ hd m d rem f t = some x ∧ step' = step + 1)) ∧ Frm (fun _ => False) W3 wx)
            case first =>
              cases o with
              | some x =>
                have hi : hInt (some x) = (x : Int) := rfl
                rw [hi]
                have hxn : ¬ (x : Int) < 0 := by omega
                have hxnb : decide ((x : Int) < 0) = false := decide_eq_false hxn
                go_wp2_with fail
                go_meet
                exact ⟨x, step, rfl, rfl, .inl ⟨rfl, rfl⟩, Frm.refl _ _⟩
              | none =>
                have hi : hInt none = -1 := rfl
                rw [hi]
                have e136 := (HD3.out.sim.q.blk.cell 136).trans HD3.out.c136
                have s1 := (HSB.out.1.cell (step * 2)).trans HSB.out.2.1
                have s2 := (HSB.out.1.cell (step * 2 + 1)).trans HSB.out.2.2
                have hst0 : (0 : Int) ≤ step := by omega
                go_upto_region 31 with fail
                go_name_world W4 hW4
                obtain ⟨f4, b4⟩ : Frm (fun _ => False) W3 W4 ∧ Blk W4 W3.heap.size #[.int .i64 f, .int .i64 t] 57 := by
                  subst hW4
                  exact ⟨(Frm.refl _ W3).alloc _, Blk.new W3 _ 57⟩
                clear hW4 e136 s1 s2
                have HD4 : Hid (Sc w K B n m A d S LB RB lc pa ca w2.heap.size (some ⟨sb, 0, none⟩) l4 cps sf st step cs2 hs2 ix2 G0 G1 rc2 lv2 ls2 rem gc W4) := HD3.out.still f4
                have l0 := b4.cell 0
                have l1 := b4.cell 1
                simp only [List.getElem?_toArray, List.getElem?_cons_zero, List.getElem?_cons_succ] at l0 l1
                have HF4 : Hid (Frm (fun _ => False) W3 W4) := f4
                have HHD : Hid (Calls Ybaf.prog 8 #[.slice pa m ca, .slice (some ⟨w2.heap.size, 0, none⟩) m m, .int .i64 f, .int .i64 t] W4 fun en w' => en = .returned (.int .i64 (hInt (hd m d rem f t))) ∧ w' = W4) := head_ok m A d rem f t pa ca w2.heap.size W4 hm HD4.out.hall (fun y hy => (HD4.out.g.cell y).trans (HD4.out.gv y hy)) (fun y hy => ((HD4.out.sim.q.arr.blk y hy).cell 2).trans rfl) (fun y hy => ((HD4.out.sim.q.arr.blk y hy).cell 3).trans rfl)
                clear f4 b4
                have hstw : (step : Int) + 1 ≤ 256 := by omega
                go_upto_region 33 with (go_at_call 8; refine HHD.out.mono ?_; rintro e w5 ⟨rfl, hw5⟩; rw [hw5]; clear hw5)
                clear l0 l1 HHD
                cases hhd : hd m d rem f t with
                | some x =>
                  have hi2 : hInt (some x) = (x : Int) := rfl
                  have HYD : Hid (hd m d rem f t = some x) := hhd
                  clear hhd
                  rw [hi2]
                  have hxn : ¬ (x : Int) < 0 := by omega
                  have hxnb : decide ((x : Int) < 0) = false := decide_eq_false hxn
                  go_wp2_with fail
                  go_meet
                  exact ⟨x, step + 1, rfl, rfl, .inr ⟨trivial, HYD.out, rfl⟩, HF4.out⟩
                | none =>
                  have hi2 : hInt none = -1 := rfl
                  have HYD : Hid (hd m d rem f t = none) := hhd
                  clear hhd
                  rw [hi2]
                  have HT4 : Hid (F.answers W4.tape) := by
                    have := HF.out
                    rw [← HD4.out.frm.tape] at this
                    exact this
                  have HN : Hid (Calls Ybaf.prog 6 #[.pointer (some ⟨S, 0, none⟩)] W4 fun en w' => en = .returned (.pointer none) ∧ Halt K W4 S cs2 w') := by
                    have hsb4 := HF4.out.blk HSB.out.1 id
                    exact next_halt F HT4.out HD4.out.sim HD4.out.mems HD4.out.c136 HD4.out.c137 HD4.out.c143 HD4.out.c144 hc2 hns ⟨(hsb4.cell _).trans HSB.out.2.1, (hsb4.cell _).trans HSB.out.2.2⟩ hsf hst HLD.out HYD.out
                  have onil := nil_eq_nil
                  go_upto_region 35 with (go_at_call 6; refine HN.out.mono ?_; rintro e w5 ⟨rfl, hHalt⟩)
                  obtain ⟨cs5, tt, vv, b5, c5a, c5b, c5c, f5⟩ := hHalt
                  have e143 := (b5.cell 143).trans c5a
                  have e144 := (b5.cell 144).trans c5b
                  have e137 := (b5.cell 137).trans ((c5c 137 (by omega)).trans HD4.out.c137)
                  have e133 := (b5.cell 133).trans ((c5c 133 (by omega)).trans HD4.out.sim.c133)
                  have HFF : Hid (Frm (fun j => w.heap.size ≤ j) w w5) := HD4.out.frm.trans f5 (fun j hj h => (h (HG.out.2.2.2.1 j hj)).elim)
                  clear b5 c5a c5b c5c f5
                  go_wp2_with fail
                  go_ret
                  exact ⟨rfl, HFF.out⟩
            case rest =>
              obtain ⟨x, step', rfl, rfl, hor, f4⟩ := hcut
              obtain ⟨W4, rfl⟩ : ∃ y, y = wc := ⟨wc, rfl⟩
              have HD4 : Hid (Sc w K B n m A d S LB RB lc pa ca w2.heap.size (some ⟨sb, 0, none⟩) l4 cps sf st step cs2 hs2 ix2 G0 G1 rc2 lv2 ls2 rem gc W4) := HD3.out.still f4
              have hsb4 := f4.blk HSB.out.1 id
              have hxx : x < m ∧ rem x = true := by
                rcases hor with ⟨h1, _⟩ | ⟨_, h1, _⟩
                · rw [h1] at HLD
                  obtain ⟨⟨f1, t1, _, hx1⟩, _, _⟩ := HLD.out
                  exact ⟨(hd_mem hx1).1, (hd_mem hx1).2.1⟩
                · exact ⟨(hd_mem h1).1, (hd_mem h1).2.1⟩
              obtain ⟨hxm, hrx⟩ := hxx
              have HN : Hid (Calls Ybaf.prog 6 #[.pointer (some ⟨S, 0, none⟩)] W4 fun en w' => en = .returned (.pointer (some ⟨A x, 0, none⟩)) ∧ Took K W4 B n m A d S cs2 LB RB lc 0 rem x step' w') := next_take HD4.out.sim HD4.out.c136 HD4.out.c137 hc2 hns ⟨(hsb4.cell _).trans HSB.out.2.1, (hsb4.cell _).trans HSB.out.2.2⟩ hsf hst HLD.out hor
              clear f4 hsb4 hor HD3 HSB HLD
              go_upto_region 37 with (go_at_call 6; refine HN.out.mono ?_; rintro e w5 ⟨rfl, hTook⟩)
              have HTk : Hid (Took K W4 B n m A d S cs2 LB RB lc 0 rem x step' w5) := hTook
              obtain ⟨cs5, hs5, ix5, H0, H1, rc5, lv5, ls5, q1, q2, q4, q3⟩ := hTook
              obtain ⟨k1, k2, k3, k4, k5, _, _⟩ := HG.out
              have htot := total_without hxm hrx
              have e137 := (q1.q.blk.cell 137).trans q4
              have e133 : w5.cell? ⟨S, 133, none⟩ = some (.int .i64 ((total m rem : Int) - 1)) := by
                rw [q1.q.blk.cell 133, q1.c133, show (total m (without rem x) : Int) = (total m rem : Int) - 1 by omega]
              have e2 := (q1.q.blk.cell 2).trans q1.c2
              have hall5 := q3.owns HD4.out.all (fun q hq h => h (k3 q hq))
              obtain ⟨ab, rfl, _⟩ := HD4.out.hall x hxm
              have cx : w5.cell? ⟨ab, x, none⟩ = some (.pointer (some ⟨A x, 0, none⟩)) := by
                have := hall5.cells (g := ab) rfl x (ptr A x) (by rw [List.getElem?_map, List.getElem?_range hxm]; rfl)
                rw [add_lit, Nat.zero_add] at this
                exact this
              have hg5 := q3.blk HD4.out.g (fun h => h k1)
              have cg := (hg5.cell x).trans (HD4.out.gv x hxm)
              have zg := hg5.frozen x
              have HFin : Hid (ScX w K B n m A d S LB RB lc (some ⟨ab, 0, none⟩) ca w2.heap.size (some ⟨sb, 0, none⟩) l4 cps sf st (w5.setCell ⟨w2.heap.size, x, none⟩ (.bool true))) := HD4.out.next k1 k2 k3 k4 k5 hxm HTk.out ((Frm.refl (fun j => j = w2.heap.size) w5).setCell ⟨w2.heap.size, x, none⟩ _ (fun _ => rfl)) (hg5.same x _)
              have hx0 : (0 : Int) ≤ x := by omega
              have hxm' : (x : Int) < m := by omega
              have ns := neq_same ⟨A x, 0, none⟩
              have htr : total m rem ≤ 256 := Nat.le_trans (List.length_filter_le _ _) (by simp; exact hm)
              have htr' : (total m rem : Int) ≤ 256 := by omega
              have htr0 : (1 : Int) ≤ total m rem := by omega
              clear q1 q2 q3 q4 hall5 hg5 k1 k2 k3 k4 k5 HTk HD4 htot
              go_wp2_with fail
              exact ⟨⟨it + 1, by omega, rfl, HFin.out⟩, by simp [intOf]; omega⟩
        · have hc2' : ¬ (step : Int) < l4 := by omega
          have hc2n : decide ((step : Int) < l4) = false := decide_eq_false hc2'
          go_upto_region 12 with fail
          go_quiet (fail)
          go_wp2_with fail
          go_ret
          exact ⟨rfl, HFr.out.drewN _⟩
      · have hc1' : ¬ (it : Int) ≤ (l4 : Int) + m := by omega
        have hc1n : decide ((it : Int) ≤ (l4 : Int) + m) = false := decide_eq_false hc1'
        go_upto_region 12 with fail
        go_quiet (fail)
        go_wp2_with fail
        go_ret
        exact ⟨rfl, HFr.out.drewN _⟩
end Go.Proofs.YbulkaryoFmt
