/-
  keptSequence.at: the entry of a number.
-/
import Derived.Test.YbulkaryoAdd
import Derived.Lib.ItoaWalk
namespace Go.Proofs.Ybulkaryo
open Go.RowKit

theorem cells_at {es : List Kep} {y : Kep} {i : Nat} (h : es[i]? = some y) (j : Nat) (hj : j < 6) : (es.flatMap Kep.cells)[6 * i + j]? = y.cells[j]? := by
  induction es generalizing i with
  | nil => cases h
  | cons z es ih =>
    rw [List.flatMap_cons]
    cases i with
    | zero =>
      obtain rfl : z = y := by simpa using h
      rw [List.getElem?_append_left (by rw [Kep.cells_length]; omega)]
      simp
    | succ i =>
      rw [List.getElem?_append_right (by rw [Kep.cells_length]; omega), Kep.cells_length]
      have := ih (i := i) (by simpa using h)
      rw [← this]
      congr 1
      omega

theorem at_ret {W : World} {A : Nat} {a b c d : Value} {t : TypeId} (hb : Blk W A #[a, b, c, d] t) (tmps : Array Value) (h4 : tmps[4]? = some (.pointer (some ⟨A, 0, none⟩))) :
    (results Yba.f24 tmps).run Yba.prog W = .ok (.agg #[a, b, c, d]) W := by
  have c0 := hb.cell 0
  have c1 := hb.cell 1
  have c2 := hb.cell 2
  have c3 := hb.cell 3
  simp at c0 c1 c2 c3
  simp [results, Yba.f24, go_sem, h4, c0, c1, c2, c3]

set_option maxRecDepth 100000 in
set_option maxHeartbeats 1000000 in
theorem at_ok (i : Nat) (y : Kep) (B P : Nat) (cs : Array Value) (va vb ve : Value) (arrs : List (Value × List UInt8)) (es : List Kep) (w : World)
    (hK : Kept w B P cs va vb ve true arrs es) (hy : es[i]? = some y) (hes : es.length ≤ 1024) (hbd : ∀ p ∈ arrs, p.2.length ≤ 1073741824) :
    Calls Yba.prog 24 #[.pointer (some ⟨P, 9, none⟩), .int .u64 ((i : Int) + 1)] w fun en w' => ∃ bv, en = .returned (.agg #[.int .i64 y.e.fr, .int .u64 y.e.seq, bv, .string y.e.name]) ∧
      Rd w' bv y.e.body ∧ (∀ k, bv.ownBlock = some k → B ≤ k ∧ k < w.heap.size) ∧ Frm (fun _ => False) w w' := by
  have hfoB : w.ownsRow B 36 1 vb 1 [ve] := by
    have := hK.ownB
    simpa using this
  obtain ⟨pb, cb, rfl, hnb, hcb, hpb⟩ := owns_form hfoB
  obtain ⟨gb, rfl⟩ := hpb (by omega)
  have hil : i < es.length := (List.getElem?_eq_some_iff.1 hy).1
  obtain ⟨pe, ce, rfl, hne, hce, hpe⟩ := owns_form hK.ownE
  obtain ⟨ge, rfl⟩ := hpe (by omega)
  obtain ⟨⟨x, bs⟩, hx, hpos, htk⟩ := hK.ok y (List.mem_of_getElem? hy)
  have hmx : (x, bs) ∈ arrs := List.mem_of_getElem? hx
  have hal : y.ai < arrs.length := (List.getElem?_eq_some_iff.1 hx).1
  obtain ⟨pa, ca, rfl, hna, hca, hpa⟩ := owns_form hK.ownA
  obtain ⟨ga, rfl⟩ := hpa (by omega)
  have hox := hK.ownX _ hmx
  simp only at hox hpos htk
  obtain ⟨px, cx, rfl, hnx, hcx, hpx⟩ := owns_form hox
  have c9 := (hK.pb.cell 9).trans hK.rel
  have c10 := (hK.pb.cell 10).trans hK.c10
  have c11 := (hK.pb.cell 11).trans hK.hd
  have c13 := (hK.pb.cell 13).trans hK.c13
  have c14 := (hK.pb.cell 14).trans hK.dr
  have cgb := owns_cell hfoB (i := 0) (u := .slice (some ⟨ge, 0, none⟩) es.length ce) rfl
  have hoE := hK.ownE
  have e0 : ∀ j u, j < 6 → y.cells[j]? = some u → w.cell? ⟨ge, i * 6 + j, none⟩ = some u := fun j u hj h => by
    have := hoE.cells (g := ge) rfl (6 * i + j) u ((cells_at hy j hj).trans h)
    rw [add_lit, Nat.zero_add, Nat.mul_comm] at this
    exact this
  have q0 : w.cell? ⟨ge, i * 6, none⟩ = some (.int .i64 y.e.fr) := e0 0 _ (by omega) rfl
  have q1 := e0 1 _ (by omega) rfl
  have q2 := e0 2 _ (by omega) rfl
  have q3 := e0 3 _ (by omega) rfl
  have q4 := e0 4 _ (by omega) rfl
  have q5 := e0 5 _ (by omega) rfl
  have cga := owns_cell hK.ownA (i := y.ai) (u := .slice px bs.length cx) (by rw [List.getElem?_map, hx]; rfl)
  have hbs := hbd _ hmx
  simp only at hbs
  have hpos' : (y.pos : Int) + y.e.name.size + y.e.body.length ≤ bs.length := by omega
  have hbs' : (bs.length : Int) ≤ 1073741824 := by omega
  have hil' : (i : Int) < es.length := by omega
  have hi0 : (0 : Int) ≤ i := by omega
  have hi1 : (i : Int) < 1024 := by omega
  have ha0 : (0 : Int) ≤ y.ai := by omega
  have ha2 : (arrs.length : Int) ≤ 9223372036854775807 := by unfold maxLen at hca; omega
  have ha1 : (y.ai : Int) < arrs.length := by omega
  have hlw := hK.pb.lt
  have hgbw := (owns_lt hfoB gb rfl).2
  have hgew := (owns_lt hoE ge rfl).2
  have hgaw := (owns_lt hK.ownA ga rfl).2
  have hd1 : (i : Int) / 1024 = 0 := by omega
  have hd2 : i / 1024 = 0 := by omega
  have hd3 : (i : Int) % 1024 = i := by omega
  have hd4 : i % 1024 = i := by omega
  clear e0
  go_enter Yba.func24, Yba.ntmps24
  go_upto_region 1 with fail
  go_quiet (fail)
  go_upto_region 3 with fail
  go_name_world W hW
  have hf : Frm (fun _ => False) w W := hW ▸ ((((Frm.refl _ w).alloc _).drewN _).alloc _)
  have bR : Blk W w.heap.size #[Value.int IntKind.i64 0, Value.int IntKind.u64 0, Value.slice none 0 0, Value.string { data := #[] }] 70 := hW ▸ (((Frm.refl (fun _ => False) _).alloc _).blk ((Blk.new w _ 70).drewN _) id)
  have bE : Blk W (w.heap.size + 1) #[Value.int IntKind.i64 y.e.fr, Value.int IntKind.u64 y.e.seq, Value.int IntKind.i64 y.ai, Value.int IntKind.u32 y.pos, Value.int IntKind.u32 y.e.name.size, Value.int IntKind.u32 y.e.body.length] 77 := by
    have h := Blk.new ((w.alloc (Obj.cells #[Value.int IntKind.i64 0, Value.int IntKind.u64 0, Value.slice none 0 0, Value.string { data := #[] }] 70)).drewN nq) #[Value.int IntKind.i64 y.e.fr, Value.int IntKind.u64 y.e.seq, Value.int IntKind.i64 y.ai, Value.int IntKind.u32 y.pos, Value.int IntKind.u32 y.e.name.size, Value.int IntKind.u32 y.e.body.length] 77
    rw [hW] at h
    simpa using h
  have hsz : W.heap.size = w.heap.size + 2 := by rw [← hW]; simp
  have hKW := hK.frm hf id (fun _ _ _ => id)
  clear hW c9 c10 c11 c13 c14 cgb q0 q1 q2 q3 q4 q5 cga
  have c13 := (hKW.pb.cell 13).trans hKW.c13
  have c14 := (hKW.pb.cell 14).trans hKW.dr
  have cga := owns_cell hKW.ownA (i := y.ai) (u := .slice px bs.length cx) (by rw [List.getElem?_map, hx]; rfl)
  have q0 := (bE.cell 0).trans (show _ = some (.int .i64 y.e.fr) from rfl)
  have q1 := (bE.cell 1).trans (show _ = some (.int .u64 y.e.seq) from rfl)
  have q2 := (bE.cell 2).trans (show _ = some (.int .i64 y.ai) from rfl)
  have q3 := (bE.cell 3).trans (show _ = some (.int .u32 y.pos) from rfl)
  have q4 := (bE.cell 4).trans (show _ = some (.int .u32 y.e.name.size) from rfl)
  have q5 := (bE.cell 5).trans (show _ = some (.int .u32 y.e.body.length) from rfl)
  go_quiet (fail)
  go_upto_region 4 with fail
  go_quiet (fail)
  go_upto_region 5 with fail
  go_name_world W2 hW2
  have hf2 : Frm (fun _ => False) w W2 := hW2 ▸ (hf.drewN _).drewN _
  have bR2 : Blk W2 w.heap.size _ 70 := hW2 ▸ (bR.drewN _).drewN _
  have bE2 : Blk W2 (w.heap.size + 1) _ 77 := hW2 ▸ (bE.drewN _).drewN _
  have hsz2 : W2.heap.size = w.heap.size + 2 := by rw [← hW2]; simp [hsz]
  clear hW2 hKW hf bR bE hsz c13 c14 cga q0 q1 q2 q3 q4 q5
  have q0 := (bE2.cell 0).trans (show _ = some (.int .i64 y.e.fr) from rfl)
  have q1 := (bE2.cell 1).trans (show _ = some (.int .u64 y.e.seq) from rfl)
  have n1 : W2.heap.size ≠ w.heap.size + 1 := by omega
  have hcx' : (bs.length : Int) ≤ (cx : Int) := by omega
  have s0 : (0 : Int) ≤ (y.pos : Int) + y.e.name.size := by omega
  have s1 : (y.pos : Int) + y.e.name.size ≤ (y.pos : Int) + y.e.name.size + y.e.body.length := by omega
  have s2 : (y.pos : Int) + y.e.name.size + y.e.body.length ≤ (cx : Int) := by omega
  have hox2 := hf2.owns hox (fun _ _ => id)
  have hltx := owns_lt hox
  have hbody : (bs.drop (y.pos + y.e.name.size)).take y.e.body.length = y.e.body := by
    have h := congrArg (List.drop y.e.name.data.toList.length) htk
    rw [List.drop_left, List.drop_take, List.drop_drop, ← size_list] at h
    rw [Nat.add_sub_cancel_left] at h
    exact h
  have hname : (bs.drop y.pos).take y.e.name.size = y.e.name.data.toList := by
    have h := congrArg (List.take y.e.name.data.toList.length) htk
    rw [List.take_left, List.take_take, ← size_list, Nat.min_eq_left (Nat.le_add_right _ _)] at h
    exact h
  go_cut [10] (fun s10 wx => s10 = .pointer (some ⟨w.heap.size + 2, 0, none⟩) ∧ ∃ pv cv, Blk wx (w.heap.size + 2) #[.int .i64 y.e.fr, .int .u64 y.e.seq, .slice pv y.e.body.length cv, .string { data := #[] }] 70 ∧
    Rd wx (.slice pv y.e.body.length cv) y.e.body ∧ (∀ k, (Value.slice pv y.e.body.length cv).ownBlock = some k → B ≤ k ∧ k < w.heap.size) ∧ Frm (fun _ => False) w wx ∧ Frm (fun _ => False) W2 wx)
  case first =>
    rcases hox2.2 with ⟨h0, hn0⟩ | ⟨gx, cap, cur, h0, hgxB, hgx, _⟩
    · obtain ⟨rfl, rfl⟩ : px = none ∧ cx = 0 := by
        injection h0 with h1 h2 h3
        exact ⟨h1, h3⟩
      have s3 : (y.pos : Int) + y.e.name.size + y.e.body.length ≤ 0 := by omega
      clear hn0 h0
      go_region_held3 (fun w' => w'.cell? ⟨w.heap.size + 1, 0, none⟩ = some (.int .i64 y.e.fr) ∧ w'.cell? ⟨w.heap.size + 1, 1, none⟩ = some (.int .u64 y.e.seq)) (go_keep) (fail)
      go_wp2_with fail
      all_goals
        go_meet
        have z1 : (↑y.pos + ↑y.e.name.size + ↑y.e.body.length : Int).toNat - (↑y.pos + ↑y.e.name.size : Int).toNat = y.e.body.length := by omega
        have zb : y.e.body = [] := List.eq_nil_of_length_eq_zero (by omega)
        try rw [z1]
        refine ⟨rfl, none, y.e.body.length, ?_, ?_, ?_, ?_, ?_⟩
        · have h := Blk.new W2 #[.int .i64 y.e.fr, .int .u64 y.e.seq, .slice none y.e.body.length y.e.body.length, .string { data := #[] }] 70
          rw [hsz2] at h
          exact h
        · exact .inl ⟨_, _, by rw [zb]; rfl, zb⟩
        · intro k hk
          cases hk
        · exact (hf2.alloc _).drew
        · exact ((Frm.refl _ W2).alloc _).drew
    · obtain ⟨rfl, rfl⟩ : px = some ⟨gx, 0, none⟩ ∧ cx = cap := by
        injection h0 with h1 h2 h3
        exact ⟨h1, h3⟩
      have cells := hox2.cells (g := gx) rfl
      have hrd : ∀ (o c : Nat), (o = 0 ∧ y.e.body.length = 0) ∨ o = y.pos + y.e.name.size → ∀ w', Frm (fun _ => False) W2 w' → Rd w' (.slice (some ⟨gx, o, none⟩) y.e.body.length c) y.e.body := fun o c ho w' hf' => by
        refine .inr ⟨gx, o, c, rfl, ?_, ?_⟩
        · have := (hltx gx rfl).2
          have := hf2.size
          have := hf'.size
          omega
        · intro j u hu
          have hj := (List.getElem?_eq_some_iff.1 hu).1
          rcases ho with ⟨_, h0⟩ | rfl
          · omega
          · have hb : bs[y.pos + y.e.name.size + j]? = some u := by
              rw [← hbody, List.getElem?_take_of_lt hj, List.getElem?_drop] at hu
              exact hu
            have h1 := cells (y.pos + y.e.name.size + j) _ (byteCells_at hb)
            rw [add_lit, Nat.zero_add] at h1
            exact (hf'.cell (a := ⟨gx, y.pos + y.e.name.size + j, none⟩) (by have := (owns_lt hox2 gx rfl).2; exact this) id).trans h1
      go_region_held3 (fun w' => w'.cell? ⟨w.heap.size + 1, 0, none⟩ = some (.int .i64 y.e.fr) ∧ w'.cell? ⟨w.heap.size + 1, 1, none⟩ = some (.int .u64 y.e.seq)) (go_keep) (fail)
      go_wp2_with fail
      · go_meet
        have z0 : y.e.body.length = 0 := by omega
        have hrd' := hrd 0 0 (.inl ⟨rfl, z0⟩) _ ((Frm.refl _ W2).alloc (Obj.cells #[.int .i64 y.e.fr, .int .u64 y.e.seq, .slice (some ⟨gx, 0, none⟩) 0 0, .string { data := #[] }] 70)).drew
        refine ⟨rfl, some ⟨gx, 0, none⟩, 0, ?_, hrd', ?_, (hf2.alloc _).drew, ((Frm.refl _ W2).alloc _).drew⟩
        · have h := Blk.new W2 #[.int .i64 y.e.fr, .int .u64 y.e.seq, .slice (some ⟨gx, 0, none⟩) 0 0, .string { data := #[] }] 70
          rw [hsz2] at h
          rw [z0]
          exact h
        · intro k hk
          exact hltx k hk
      · go_meet
        have z1 : (↑y.pos + ↑y.e.name.size + ↑y.e.body.length : Int).toNat - (↑y.pos + ↑y.e.name.size : Int).toNat = y.e.body.length := by omega
        have z2 : (↑y.pos + ↑y.e.name.size : Int).toNat = y.pos + y.e.name.size := by omega
        rw [z1, z2]
        refine ⟨rfl, some ⟨gx, y.pos + y.e.name.size, none⟩, y.e.body.length, ?_, hrd _ _ (.inr rfl) _ ((Frm.refl _ W2).alloc _).drew, ?_, (hf2.alloc _).drew, ((Frm.refl _ W2).alloc _).drew⟩
        · have h := Blk.new W2 #[.int .i64 y.e.fr, .int .u64 y.e.seq, .slice (some ⟨gx, y.pos + y.e.name.size, none⟩) y.e.body.length y.e.body.length, .string { data := #[] }] 70
          rw [hsz2] at h
          exact h
        · intro k hk
          exact hltx k hk
  case rest =>
    obtain ⟨rfl, pv, cv, bX, hrd, hpv, hf3, hf23⟩ := hcut
    have bR3 := hf23.blk bR2 id
    have bE3 := hf23.blk bE2 id
    have hox3 := hf3.owns hox (fun _ _ => id)
    clear q0 q1 bR2 bE2 hf2 hox2
    have q3 := (bE3.cell 3).trans (show _ = some (.int .u32 y.pos) from rfl)
    have q4 := (bE3.cell 4).trans (show _ = some (.int .u32 y.e.name.size) from rfl)
    have x0 := (bX.cell 0).trans (show _ = some (.int .i64 y.e.fr) from rfl)
    have x1 := (bX.cell 1).trans (show _ = some (.int .u64 y.e.seq) from rfl)
    have x2 := (bX.cell 2).trans (show _ = some (.slice pv y.e.body.length cv) from rfl)
    have x3 := (bX.cell 3).trans (show _ = some (.string { data := #[] }) from rfl)
    have x4 := bX.frozen 3
    have r0 := (bR3.cell 0).trans (show _ = some (.int .i64 0) from rfl)
    have r1 := (bR3.cell 1).trans (show _ = some (.int .u64 0) from rfl)
    have r2 := (bR3.cell 2).trans (show _ = some (.slice none 0 0) from rfl)
    have r3 := (bR3.cell 3).trans (show _ = some (.string { data := #[] }) from rfl)
    have r4 := bR3.frozen 0
    have r5 := bR3.frozen 1
    have r6 := bR3.frozen 2
    have r7 := bR3.frozen 3
    by_cases hnm : y.e.name.size = 0
    · have hnm' : ¬ (0 : Int) < y.e.name.size := by omega
      have hne : y.e.name = { data := #[] } := by
        have : y.e.name.data.size = 0 := hnm
        have h2 : y.e.name.data = #[] := Array.eq_empty_of_size_eq_zero this
        cases hh : y.e.name
        rw [hh] at h2
        simp only at h2
        rw [h2]
      clear hnm
      go_wp2_with fail
      try simp only [Exit.inBlock, Exit.then]
      have bF := (((bR3.same 0 (.int .i64 y.e.fr)).same 1 (.int .u64 y.e.seq)).same 2 (.slice pv y.e.body.length cv)).same 3 (.string { data := #[] })
      have hfF := ((((Frm.refl (fun k => k = w.heap.size) wc).setCell ⟨w.heap.size, 0, none⟩ (.int .i64 y.e.fr) (fun _ => rfl)).setCell ⟨w.heap.size, 1, none⟩ (.int .u64 y.e.seq) (fun _ => rfl)).setCell ⟨w.heap.size, 2, none⟩ (.slice pv y.e.body.length cv) (fun _ => rfl)).setCell ⟨w.heap.size, 3, none⟩ (.string { data := #[] }) (fun _ => rfl)
      refine bodyPost_ret (at_ret bF _ rfl) rfl ⟨_, by first | rfl | rw [hne], hrd.frm hfF (fun k hk e => by have := (hpv k (rdB_own hk)).2; omega), hpv, hf3.trans hfF (fun j hj e => by omega)⟩
    · have hnm' : (0 : Int) < y.e.name.size := by omega
      rcases hox3.2 with ⟨h0, hn0⟩ | ⟨gx, cap, cur, h0, hgxB, hgx, _⟩
      · omega
      obtain ⟨rfl, rfl⟩ : px = some ⟨gx, 0, none⟩ ∧ cx = cap := by
        injection h0 with h1 h2 h3
        exact ⟨h1, h3⟩
      have t0 : (0 : Int) ≤ (y.pos : Int) := by omega
      have t1 : (y.pos : Int) ≤ (y.pos : Int) + y.e.name.size := by omega
      have t2 : (y.pos : Int) + y.e.name.size ≤ (cx : Int) := by omega
      have cells := hox3.cells (g := gx) rfl
      have hstr : (convert 62 9 (.slice (some ⟨gx, y.pos, none⟩) y.e.name.size (cx - y.pos))).run Yba.prog wc = .ok (.string y.e.name) wc := by
        have hr : Rd wc (.slice (some ⟨gx, y.pos, none⟩) y.e.name.size (cx - y.pos)) y.e.name.data.toList := by
          refine .inr ⟨gx, y.pos, cx - y.pos, by rw [size_list], (owns_lt hox3 gx rfl).2, ?_⟩
          intro j u hu
          have hj := (List.getElem?_eq_some_iff.1 hu).1
          have hb : bs[y.pos + j]? = some u := by
            rw [← hname, List.getElem?_take_of_lt (by rw [size_list]; exact hj), List.getElem?_drop] at hu
            exact hu
          have h1 := cells (y.pos + j) _ (byteCells_at hb)
          rw [add_lit, Nat.zero_add] at h1
          exact h1
        exact hr.str
      go_wp2_with fail
      try simp only [Exit.inBlock, Exit.then]
      have hfX := (Frm.refl (fun k => k = w.heap.size + 2) wc).setCell ⟨w.heap.size + 2, 3, none⟩ (.string y.e.name) (fun _ => rfl)
      have bF := ((((hfX.blk bR3 (by omega)).same 0 (.int .i64 y.e.fr)).same 1 (.int .u64 y.e.seq)).same 2 (.slice pv y.e.body.length cv)).same 3 (.string y.e.name)
      have hfF := (((((Frm.refl (fun k => w.heap.size ≤ k) wc).setCell ⟨w.heap.size + 2, 3, none⟩ (.string y.e.name) (fun _ => by show w.heap.size ≤ w.heap.size + 2; omega)).setCell ⟨w.heap.size, 0, none⟩ (.int .i64 y.e.fr) (fun _ => Nat.le_refl _)).setCell ⟨w.heap.size, 1, none⟩ (.int .u64 y.e.seq) (fun _ => Nat.le_refl _)).setCell ⟨w.heap.size, 2, none⟩ (.slice pv y.e.body.length cv) (fun _ => Nat.le_refl _)).setCell ⟨w.heap.size, 3, none⟩ (.string y.e.name) (fun _ => Nat.le_refl _)
      refine bodyPost_ret (at_ret bF _ rfl) rfl ⟨_, rfl, hrd.frm hfF (fun k hk e => by have := (hpv k (rdB_own hk)).2; omega), hpv, hf3.trans hfF (fun j hj e => by omega)⟩
end Go.Proofs.Ybulkaryo
