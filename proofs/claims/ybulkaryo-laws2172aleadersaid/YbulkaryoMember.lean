/-
  The walk of LawS2172AMember: it returns true.
-/
import Derived.Test.YbulkaryoNew
namespace Go.Proofs.Ybulkaryo
open Go.RowKit

theorem mod_ne (m n x : Int) (h0 : 0 ≤ m) (h1 : m < n) (h2 : 0 ≤ x) (h3 : x < n - 1) : (m + 1 + x) % n ≠ m := by
  by_cases h : m + 1 + x < n
  · rw [Int.emod_eq_of_lt (by omega) h]
    omega
  · have : (m + 1 + x) % n = m + 1 + x - n := by
      rw [← Int.sub_emod_right]
      exact Int.emod_eq_of_lt (by omega) (by omega)
    omega

theorem Kept.init {w : World} {B P : Nat} {cs : Array Value} (hb : Blk w P cs 48) (hPB : P < B) (hbig : 36 ≤ cs.size) (h9 : cs[9]? = some (.int .u64 0)) (h10 : cs[10]? = some (.slice none 0 0)) (h11 : cs[11]? = some (.int .i64 0)) (h12 : cs[12]? = some (.slice none 0 0)) (h13 : cs[13]? = some (.slice none 0 0)) (h14 : cs[14]? = some (.int .i64 0)) :
    Kept w B P cs (.slice none 0 0) (.slice none 0 0) (.slice none 0 0) false [] [] where
  low := hPB
  pb := hb
  big := hbig
  rel := h9
  hd := h11
  sp := h12
  dr := h14
  c13 := h13
  c10 := h10
  ownA := World.ownsRow_nil _ _ _ _
  ownX := fun _ h => by cases h
  ownB := ⟨rfl, rfl, rfl⟩
  ownE := World.ownsRow_nil _ _ _ _
  apAB := fun _ h => by cases h
  apAE := fun _ h => by cases h
  apBE := fun _ h => by cases h
  apXA := fun _ h => by cases h
  apXB := fun _ h => by cases h
  apXE := fun _ h => by cases h
  apXX := List.Pairwise.nil
  ok := fun _ h => by cases h

theorem framesOf_length (tg : Nat) : ∀ (n : Nat) (es : List Ent), (framesOf tg n es).length = es.length
  | _, [] => rfl
  | n, _ :: es => by simp [framesOf, framesOf_length tg (n + 1) es]

section
variable (mc : Array Value) (x y z : Value) {i : Nat}
theorem set3_0 (h : i + 2 < mc.size) : (((mc.setIfInBounds i x).setIfInBounds (i + 1) y).setIfInBounds (i + 2) z)[i]? = some x := by
  rw [Array.getElem?_setIfInBounds_ne (by omega), Array.getElem?_setIfInBounds_ne (by omega), Array.getElem?_setIfInBounds_self_of_lt (by omega)]
theorem set3_1 (h : i + 2 < mc.size) : (((mc.setIfInBounds i x).setIfInBounds (i + 1) y).setIfInBounds (i + 2) z)[i + 1]? = some y := by
  rw [Array.getElem?_setIfInBounds_ne (by omega), Array.getElem?_setIfInBounds_self_of_lt (by simp; omega)]
theorem set3_2 (h : i + 2 < mc.size) : (((mc.setIfInBounds i x).setIfInBounds (i + 1) y).setIfInBounds (i + 2) z)[i + 2]? = some z := by
  rw [Array.getElem?_setIfInBounds_self_of_lt (by simp; omega)]
end

set_option maxRecDepth 100000 in
set_option maxHeartbeats 1000000 in
theorem member_ok (a b c k0 : Nat) (ha : a < 256) (hb : b < 256) (hc : c < 256) (hk0 : k0 < 256) (chg flag hv sm : Bool) (v : Value) (ab ao : Nat) (es : List Ent) (w : World) (hv' : ArgV v ab ao es.length) (hA : Args w w.heap.size ab ao es)
    (hl : es.length ≤ 140737488355328) (hsz : ∀ e ∈ es, e.name.size ≤ 140737488355328 ∧ e.body.length ≤ 140737488355328) (hfr : ∀ e ∈ es, e.fr < 256 ∧ e.seq < 18446744073709551616) :
    Calls Yba.prog 3 #[.int .u8 a, .int .u8 b, .int .u8 c, .bool chg, .bool flag, .bool hv, .bool sm, .int .u8 k0, v] w fun en w' => en = .returned (.bool true) ∧ Frm (fun _ => False) w w' := by
  obtain ⟨p, cp, rfl, hp⟩ := hv'.form
  have ha' : (a : Int) < 256 := by omega
  have hb' : (b : Int) < 256 := by omega
  have hc' : (c : Int) < 256 := by omega
  have hk' : (k0 : Int) < 256 := by omega
  go_enter Yba.func3, Yba.ntmps3
  go_wp2_with fail
  refine (ok_ok _ ab ao w.heap.size es _ hv' hA hl hsz).mono ?_
  rintro e w1 ⟨rfl, q, rfl⟩
  by_cases hok : okAll es = true
  · rw [hok]
    have hok2 : es.length ≤ 1024 ∧ ∀ e ∈ es, e.name.size + e.body.length ≤ 1048576 := by
      unfold okAll okEnt at hok
      simp at hok
      exact ⟨by omega, fun e he => by have := hok.2 e he; omega⟩
    obtain ⟨hl2, hsz2⟩ := hok2
    have hfit : ∀ e ∈ es, e.fr < 256 ∧ e.seq < 18446744073709551616 ∧ e.name.size + e.body.length ≤ 1048576 := fun e he => ⟨(hfr e he).1, (hfr e he).2, hsz2 e he⟩
    go_upto_region 4 with fail
    go_name_slot 19 nI hnI
    obtain ⟨n, rfl⟩ : ∃ n : Nat, nI = n := ⟨nI.toNat, by omega⟩
    have hn2 : (2 : Int) ≤ n := by omega
    have hn8 : (n : Int) ≤ 8 := by omega
    clear hnI
    go_upto_region 5 with fail
    go_name_slot 20 mI hmI
    have hm0 : 0 ≤ mI := by rw [← hmI]; exact Int.emod_nonneg _ (by omega)
    have hm1 : mI < n := by rw [← hmI]; exact Int.emod_lt_of_pos _ (by omega)
    obtain ⟨me, rfl⟩ : ∃ me : Nat, mI = me := ⟨mI.toNat, by omega⟩
    clear hmI
    have hq0 : 0 ≤ (c : Int) % ((n : Int) - 1) := Int.emod_nonneg _ (by omega)
    have hq1 : (c : Int) % ((n : Int) - 1) < (n : Int) - 1 := Int.emod_lt_of_pos _ (by omega)
    go_upto_region 6 with fail
    go_name_slot 21 lI hlI
    have hl0 : 0 ≤ lI := by rw [← hlI]; exact Int.emod_nonneg _ (by omega)
    have hl1 : lI < n := by rw [← hlI]; exact Int.emod_lt_of_pos _ (by omega)
    have hlm : lI ≠ me := by
      rw [← hlI]
      exact mod_ne me n _ (by omega) hm1 hq0 hq1
    obtain ⟨ld, rfl⟩ : ∃ ld : Nat, lI = ld := ⟨lI.toNat, by omega⟩
    clear hlI hq0 hq1
    go_wp2_with fail
    refine (newTotal_ok me n w.heap.size _ (by omega)).mono ?_
    rintro e w2 ⟨P, f, rfl, hM⟩
    have hf2 : Frm (fun _ => False) w w2 := (((Frm.refl _ w).drewN q).alloc _).trans hM.frm (fun _ _ h => h)
    have hE2 : Blk w2 w.heap.size #[.slice none 0 0, .int .i64 0] 27 := hM.frm.blk (Blk.new (w.drewN q) _ 27) id
    have hPE : w.heap.size + 1 ≤ P := by
      have := hM.low
      simp at this
      exact this
    obtain ⟨hg0, hg1, hg2⟩ := hM.obj 17 _ (by omega) rfl
    have hg1' : w.heap.size + 1 ≤ f 17 := by simpa using hg1
    have hP2 := hM.blk
    have hPw := hP2.lt
    have hg : Blk w2 (f 17) (madeCells #[.bool false, .int .u64 0, .int .i64 0] (n * 3)) 50 := hg0
    have hgsz : (madeCells #[.bool false, .int .u64 0, .int .i64 0] (n * 3)).size = n * 3 := by simp [madeCells]
    have hldn : ld < n := by omega
    have hget : ∀ j, j < 3 → ∃ u, (madeCells #[.bool false, .int .u64 0, .int .i64 0] (n * 3))[ld * 3 + j]? = some u := fun j hj => ⟨_, Array.getElem?_eq_getElem (by rw [hgsz]; omega)⟩
    generalize madeCells #[.bool false, .int .u64 0, .int .i64 0] (n * 3) = mc at hg hgsz hget
    obtain ⟨u0, hu0⟩ := hget 0 (by omega)
    obtain ⟨u1, hu1⟩ := hget 1 (by omega)
    obtain ⟨u2, hu2⟩ := hget 2 (by omega)
    have c33 : w2.cell? ⟨P, 33, none⟩ = some (.slice (some ⟨f 17, 0, none⟩) n n) := hP2.cell 33
    have c2 : w2.cell? ⟨P, 2, none⟩ = some (.int .i64 0) := hP2.cell 2
    have c31 : w2.cell? ⟨P, 31, none⟩ = some (.bool false) := hP2.cell 31
    have c34 : w2.cell? ⟨P, 34, none⟩ = some (.bool false) := hP2.cell 34
    have f2 := hP2.frozen 2
    have f31 := hP2.frozen 31
    have f34 := hP2.frozen 34
    have hP2s : (totCells me n w.heap.size f)[33]? = some (.slice (some ⟨f 17, 0, none⟩) n n) := rfl
    generalize f 17 = g at hg hg1' hg2 c33 hP2s
    have g0 : w2.cell? ⟨g, ld * 3, none⟩ = some u0 := (hg.cell _).trans hu0
    have g1 : w2.cell? ⟨g, ld * 3 + 1, none⟩ = some u1 := (hg.cell _).trans hu1
    have g2 : w2.cell? ⟨g, ld * 3 + 2, none⟩ = some u2 := (hg.cell _).trans hu2
    have fg0 := hg.frozen (ld * 3)
    have fg1 := hg.frozen (ld * 3 + 1)
    have fg2 := hg.frozen (ld * 3 + 2)
    have hgP : g ≠ P := by omega
    have hgP' : P ≠ g := by omega
    go_upto_if 70 with fail
    go_cut [24] (fun s24 wx => wx = ((w2.setCell ⟨P, 2, none⟩ (.int .i64 ld)).setCell ⟨P, 31, none⟩ (.bool chg)).setCell ⟨P, 34, none⟩ (.bool flag) ∧ ∃ tg : Nat, s24 = .int .i64 tg ∧ (tg == ld) = sm)
    case first =>
      cases sm
      · go_wp2_with fail
        go_meet
        refine ⟨rfl, (((ld : Int) + 1) % n).toNat, ?_, ?_⟩
        · rw [Int.toNat_of_nonneg (Int.emod_nonneg _ (by omega))]
        · have h := mod_ne ld n 0 (by omega) (by omega) (by omega) (by omega)
          rw [Int.add_zero] at h
          have h2 := Int.emod_nonneg ((ld : Int) + 1) (b := n) (by omega)
          rw [beq_eq_false_iff_ne]
          omega
      · go_wp2_with fail
        go_meet
        exact ⟨rfl, ld, rfl, by simp⟩
    case rest =>
      obtain ⟨hwc, tg, rfl, htg⟩ := hcut
      have hP3 : Blk wc P ((((totCells me n w.heap.size f).setIfInBounds 2 (.int .i64 ld)).setIfInBounds 31 (.bool chg)).setIfInBounds 34 (.bool flag)) 48 := hwc ▸ ((hP2.same 2 _).same 31 _).same 34 _
      have hf3 : Frm (fun k => k = P) w2 wc := hwc ▸ (((Frm.refl (fun k => k = P) w2).setCell ⟨P, 2, none⟩ _ (fun _ => rfl)).setCell ⟨P, 31, none⟩ _ (fun _ => rfl)).setCell ⟨P, 34, none⟩ _ (fun _ => rfl)
      clear hwc c33 c2 c31 c34 f2 f31 f34 g0 g1 g2 fg0 fg1 fg2
      have hg3 := hf3.blk hg hgP
      have g0 : wc.cell? ⟨g, ld * 3, none⟩ = some u0 := (hg3.cell _).trans hu0
      have g1 : wc.cell? ⟨g, ld * 3 + 1, none⟩ = some u1 := (hg3.cell _).trans hu1
      have g2 : wc.cell? ⟨g, ld * 3 + 2, none⟩ = some u2 := (hg3.cell _).trans hu2
      have fg0 := hg3.frozen (ld * 3)
      have fg1 := hg3.frozen (ld * 3 + 1)
      have fg2 := hg3.frozen (ld * 3 + 2)
      have hcs33 : ((((totCells me n w.heap.size f).setIfInBounds 2 (.int .i64 ld)).setIfInBounds 31 (.bool chg)).setIfInBounds 34 (.bool flag))[33]? = some (.slice (some ⟨g, 0, none⟩) n n) := hP2s
      have c33 := (hP3.cell 33).trans hcs33
      have hk64 : IntKind.u64.wrap (k0 : Int) = k0 := u64_wrap (by omega)
      have hld0 : (0 : Int) ≤ ld := by omega
      have hldn' : (ld : Int) < n := by omega
      go_upto_region 15 with fail
      go_name_world W hW
      have hf4 : Frm (fun k => k = g) wc W := hW ▸ (((Frm.refl (fun k => k = g) wc).setCell ⟨g, ld * 3, none⟩ _ (fun _ => rfl)).setCell ⟨g, ld * 3 + 1, none⟩ _ (fun _ => rfl)).setCell ⟨g, ld * 3 + 2, none⟩ _ (fun _ => rfl)
      have hg4 : Blk W g (((mc.setIfInBounds (ld * 3) (.bool hv)).setIfInBounds (ld * 3 + 1) (.int .u64 k0)).setIfInBounds (ld * 3 + 2) (.int .i64 tg)) 50 := hW ▸ ((hg3.same _ _).same _ _).same _ _
      clear hW g0 g1 g2 fg0 fg1 fg2 c33
      have hPW := hf4.blk hP3 hgP'
      have hE4 := hf4.blk (hf3.blk hE2 (by omega)) (by omega)
      have hfW : Frm (fun k => w.heap.size ≤ k) w W := ((hf2.mono (T := fun k => w.heap.size ≤ k) (fun _ _ h => h.elim)).trans hf3 (fun j hj h => by omega)).trans hf4 (fun j hj h => by omega)
      have hAW := hA.frm hfW (Nat.le_refl _) (fun k hk h => by omega)
      have hWs := Nat.le_trans hf3.size hf4.size
      have hK0 := Kept.init hPW (B := W.heap.size) hPW.lt (by simp [totCells]) rfl rfl rfl rfl rfl rfl
      generalize hcs0 : ((((totCells me n w.heap.size f).setIfInBounds 2 (.int .i64 ld)).setIfInBounds 31 (.bool chg)).setIfInBounds 34 (.bool flag)) = cs0 at hPW hK0 hcs33
      have k6 : cs0[6]? = some (.int .u64 0) := by rw [← hcs0]; rfl
      have k0' : cs0[0]? = some (.iface 24 (.pointer (some ⟨w.heap.size, 0, none⟩))) := by rw [← hcs0]; rfl
      have k1 : cs0[1]? = some (.int .i64 me) := by rw [← hcs0]; rfl
      have k2 : cs0[2]? = some (.int .i64 ld) := by rw [← hcs0]; rfl
      have k31 : cs0[31]? = some (.bool chg) := by rw [← hcs0]; rfl
      have k34 : cs0[34]? = some (.bool flag) := by rw [← hcs0]; rfl
      have mm0 : W.cell? ⟨g, ld * 3, none⟩ = some (.bool hv) := (hg4.cell _).trans (set3_0 mc _ _ _ (by omega))
      have mm1 : W.cell? ⟨g, ld * 3 + 1, none⟩ = some (.int .u64 k0) := (hg4.cell _).trans (set3_1 mc _ _ _ (by omega))
      have mm2 : W.cell? ⟨g, ld * 3 + 2, none⟩ = some (.int .i64 tg) := (hg4.cell _).trans (set3_2 mc _ _ _ (by omega))
      clear hcs0 hP3 hf3 hg3 hE2 hg hu0 hu1 hu2 hP2 hM
      go_wp2_with fail
      refine (fill_ok _ ab ao w.heap.size W.heap.size P cs0 es W hv' hAW (by omega) hK0 (Nat.le_refl _) k6 hl2 hfit).mono ?_
      rintro e w5 ⟨rfl, hFill⟩
      obtain ⟨cs5, va, vb, ve, made, arrs, ks, hK5, hks, hf5, hcs5, h65, hab5⟩ := hFill
      have hgW : g < W.heap.size := hg4.lt
      have hE5 := hf5.blk hE4 (by omega)
      have mc5 : ∀ j, w5.cell? ⟨g, j, none⟩ = W.cell? ⟨g, j, none⟩ := fun j => hf5.cell (a := ⟨g, j, none⟩) hgW (by show ¬ (g = P ∨ W.heap.size ≤ g); omega)
      have hkl : ks.length = es.length := by rw [← hks, List.length_map]
      have hfitk : ∀ y ∈ ks, y.e.fr < 256 ∧ y.e.seq < 18446744073709551616 ∧ y.e.name.size + y.e.body.length ≤ 1048576 := fun y hy => hfit y.e (by rw [← hks]; exact List.mem_map_of_mem hy)
      have hF5 : Frames w5 W.heap.size (.slice none 0 0) [] := ⟨World.ownsRow_nil _ _ _ _, fun _ h => by cases h⟩
      have hcs5' : ∀ j, j ≠ 6 → j ≠ 10 → j ≠ 12 → j ≠ 13 → ∀ u, cs0[j]? = some u → cs5[j]? = some u := fun j h1 h2 h3 h4 u hu => (hcs5 j h1 h2 h3 h4).trans hu
      go_wp2_with fail
      refine (goOn_member me ld tg k0 n g n hv flag chg W.heap.size w.heap.size P cs5 va vb ve made arrs ks (.slice none 0 0) (.int .i64 0) [] w5 hK5 (hcs5' 0 (by decide) (by decide) (by decide) (by decide) _ k0') (by rw [hkl]; exact h65) (hcs5' 1 (by decide) (by decide) (by decide) (by decide) _ k1) (hcs5' 2 (by decide) (by decide) (by decide) (by decide) _ k2) (hcs5' 31 (by decide) (by decide) (by decide) (by decide) _ k31) (hcs5' 33 (by decide) (by decide) (by decide) (by decide) _ hcs33) (hcs5' 34 (by decide) (by decide) (by decide) (by decide) _ k34)
        ((mc5 _).trans mm0) ((mc5 _).trans mm1) ((mc5 _).trans mm2) hldn (by omega) (by omega) hE5 (by omega) hF5 hf5.size (by omega) (by simp; omega) hab5 hfitk hk0).mono ?_
      rintro e w6 ⟨rfl, hSent⟩
      obtain ⟨cs6, sv6, M, hK6, hE6, hF6, hf6, hcs6, hM6, h346⟩ := hSent
      rw [List.nil_append] at hF6
      rw [hks, htg] at hM6
      rw [htg] at h346
      have hA6 : Args w6 w.heap.size ab ao es := (hAW.frm hf5 (by omega) (fun k hk h => by omega)).frm hf6 (by have := hf5.size; omega) (fun k hk h => by omega)
      have hw6 : w.heap.size ≤ w6.heap.size := by
        have := hf5.size
        have := hf6.size
        omega
      have hlow := hK0.low
      have hfin : Frm (fun k => w.heap.size ≤ k) w w6 := (hfW.trans hf5 (fun j hj h => by omega)).trans hf6 (fun j hj h => by omega)
      have p31 : cs6[31]? = some (.bool chg) := (hcs6 31 (by decide)).trans (hcs5' 31 (by decide) (by decide) (by decide) (by decide) _ k31)
      have p6 : cs6[6]? = some (.int .u64 es.length) := (hcs6 6 (by decide)).trans h65
      have hML : M.length ≤ 1024 := by
        have h := congrArg List.length hM6
        rw [List.length_map] at h
        have h2 := framesOf_length ld k0 (es.drop k0)
        unfold onlyIf at h
        split at h
        · rw [h2, List.length_drop] at h
          omega
        · rw [List.length_nil] at h
          omega
      clear hK0 hK5 hF5 hE5 hcs5 hcs5' hfitk hf5 hf6 hab5 mm0 mm1 mm2 mc5 hPW hE4 hAW hA hf4 hg4
      go_upto_region 18 with fail
      go_cut [27] (fun s27 wx => s27 = .bool (chg && !flag && hv && sm) ∧ wx = w6)
      case first =>
        clear hK6 hE6 hF6 hA6 hfit hsz hsz2 hfr hM6 h346 p31 p6 hfin hok
        cases chg <;> cases flag <;> cases hv <;> cases sm <;>
          (go_wp2_with fail
           go_meet
           exact ⟨rfl, rfl⟩)
      case rest =>
        obtain ⟨rfl, hwc⟩ := hcut
        rw [hwc]
        clear hwc
        go_upto_if 102 with fail
        go_cut [26, 27] (fun s26 s27 wx => s27 = .bool (chg && !flag && hv && sm) ∧ Fwd w6 w6.heap.size [] (onlyIf (chg && !flag && hv && sm) (framesOf ld k0 (es.drop k0))) s26 wx)
        case first =>
          by_cases hgo : (chg && !flag && hv && sm) = true
          · rw [hgo]
            go_wp2_with fail
            refine (forwards_ok ld k0 _ ab ao w.heap.size w6.heap.size es _ [] _ hv' hA6 hw6 (Nat.le_refl _) ⟨World.ownsRow_nil _ _ _ _, fun _ h => by cases h⟩ (by simp) hk0 hl2 hfit).mono ?_
            rintro e w7 ⟨sv7, rfl, hF7⟩
            go_wp2_with fail
            go_meet
            exact ⟨by rw [hgo], by rw [hgo]; exact hF7⟩
          · have hgo' : (chg && !flag && hv && sm) = false := by simpa using hgo
            rw [hgo']
            go_wp2_with fail
            go_meet
            exact ⟨by rw [hgo'], by rw [hgo']; exact ⟨[], ⟨World.ownsRow_nil _ _ _ _, fun _ h => by cases h⟩, rfl, Frm.refl _ _⟩⟩
        case rest =>
          obtain ⟨rfl, M7, hF7, hM7, hf7⟩ := hcut
          have hf7 : Frm (fun _ => False) w6 wc := hf7.mono (fun j hj h => by omega)
          rw [List.nil_append] at hF7
          have hK7 := hK6.frm hf7 id (fun _ _ _ => id)
          have hE7 := hf7.blk hE6 id
          have hF67 := hF6.frm hf7 (fun _ _ _ => id)
          have x1 := (hE7.cell 1).trans (show _ = some (.int .i64 0) from rfl)
          have x34 := (hK7.pb.cell 34).trans h346
          have x31 := (hK7.pb.cell 31).trans p31
          have x6 := (hK7.pb.cell 6).trans p6
          have x0 := (hE7.cell 0).trans (show _ = some sv6 from rfl)
          have hles : IntKind.u64.wrap (es.length : Int) = es.length := u64_wrap (by omega)
          obtain ⟨p6', c6', rfl, _, _, _⟩ := owns_form hF67.row
          go_wp2_with (go_at_call 10; refine (same_ok _ _ _ _ M M7 _ hF67 hF7 (hM6.trans hM7.symm) (by omega)).mono ?_; rintro e w8 ⟨rfl, q8, rfl⟩)
          all_goals
            go_ret
            exact ⟨rfl, ((hfin.mono (fun j hj h => by omega)).trans hf7 (fun _ _ h => h)).drewN q8⟩
  · have hok' : okAll es = false := by simpa using hok
    rw [hok']
    go_wp2_with fail
    go_ret
    exact ⟨rfl, (Frm.refl _ w).drewN q⟩
end Go.Proofs.Ybulkaryo
