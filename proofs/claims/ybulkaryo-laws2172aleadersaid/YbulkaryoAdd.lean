/-
  keptSequence.add: one entry more is kept.
-/
import Derived.Test.YbulkaryoKept
import Derived.Deep.DeepCutAuto
import Derived.Deep.RegionLaw
namespace Go.Proofs.Ybulkaryo
open Go.RowKit

/-- A row's value is a slice of that length. -/
theorem owns_form {w : World} {B : Nat} {e : TypeId} {size n : Nat} {v : Value} {xs : List Value} (h : w.ownsRow B e size v n xs) : ∃ p c, v = .slice p n c ∧ n ≤ c ∧ c ≤ maxLen ∧ (0 < n → ∃ g, p = some ⟨g, 0, none⟩) := by
  rcases h.2 with ⟨rfl, rfl⟩ | ⟨g, cap, cur, rfl, _, _, hn, hc, _⟩
  · exact ⟨none, 0, rfl, Nat.le_refl _, by unfold maxLen; omega, fun h => absurd h (Nat.lt_irrefl _)⟩
  · exact ⟨some ⟨g, 0, none⟩, cap, rfl, hn, hc, fun _ => ⟨g, rfl⟩⟩
theorem src_newp {W : World} {x : Value} {t tx e : TypeId} (hk : Yba.prog.underlying tx = some (.slice e)) (hx : x.oneCell' = true) {A : Nat} (hA : W.heap.size = A) : Src Yba.prog 1 tx (.slice (some ⟨A, 0, none⟩) 1 1) 1 [x] (W.alloc (.cells #[x] t)) := by
  subst hA
  exact Src.ofSlice _ hk ⟨W.heap.size, 0, none⟩ 1 1 [x] rfl (cell_one_new W x t) (by intro u hu; simp at hu; subst hu; exact hx)
theorem src_six {W : World} {a b c d f g : Value} {t tx e : TypeId} (hk : Yba.prog.underlying tx = some (.slice e)) {A : Nat} (hA : W.heap.size = A) (h1 : ∀ u ∈ [a, b, c, d, f, g], u.oneCell' = true) : Src Yba.prog 6 tx (.slice (some ⟨A, 0, none⟩) 1 1) 1 [a, b, c, d, f, g] (W.alloc (.cells #[a, b, c, d, f, g] t)).drew := by
  subst hA
  refine Src.ofSlice _ hk ⟨W.heap.size, 0, none⟩ 1 1 [a, b, c, d, f, g] rfl (fun j u hu => ?_) h1
  rw [add_lit, Blk.cell (w := (W.alloc (.cells #[a, b, c, d, f, g] t)).drew) (cs := #[a, b, c, d, f, g]) (t := t) (Blk.new W #[a, b, c, d, f, g] t)]
  simpa using hu
theorem ok_last (e : Ent) (init : List (Value × List UInt8)) (x : Value) (bs : List UInt8) : (⟨e, init.length, bs.length⟩ : Kep).ok (init ++ [(x, bs ++ (e.name.data.toList ++ e.body))]) := by
  have := size_list e.name
  refine ⟨(x, bs ++ (e.name.data.toList ++ e.body)), by simp, ?_, ?_⟩
  · simp only [List.length_append]
    omega
  · simp only [List.drop_left]
    exact List.take_of_length_le (by rw [List.length_append]; omega)
/-- A load that no condition on the world gives: 'go_region_held3' then does not try to take it first. -/
def later (o : Op) : Op := o
attribute [local go_sem] later
theorem Rd.form {w : World} {v : Value} {bs : List UInt8} (h : Rd w v bs) : ∃ p c, v = .slice p bs.length c := by
  rcases h with ⟨p, c, rfl, rfl⟩ | ⟨b, o, c, rfl, _⟩
  · exact ⟨p, c, rfl⟩
  · exact ⟨_, c, rfl⟩
theorem owns_cell {w : World} {B : Nat} {e : TypeId} {g n c i : Nat} {xs : List Value} {u : Value} (h : w.ownsRow B e 1 (.slice (some ⟨g, 0, none⟩) n c) n xs) (hi : xs[i]? = some u) : w.cell? ⟨g, i, none⟩ = some u := by
  have := h.cells (g := g) rfl i u hi
  rw [add_lit] at this
  simpa using this
/-- What has been appended last is read out of a block of its own. -/
theorem src_new {W : World} {x : Value} {t tx e : TypeId} (hk : Yba.prog.underlying tx = some (.slice e)) (hx : x.oneCell' = true) {A : Nat} (hA : W.heap.size = A) : Src Yba.prog 1 tx (.slice (some ⟨A, 0, none⟩) 1 1) 1 [x] (W.alloc (.cells #[x] t)).drew := by
  subst hA
  exact Src.ofSlice _ hk ⟨W.heap.size, 0, none⟩ 1 1 [x] rfl (cell_one_new W x t) (by intro u hu; simp at hu; subst hu; exact hx)

theorem make_entries : ∃ cells : Array Value, cells.size = 1024 * 6 ∧ ∀ w : World, (Instr.makeSlice 36 (.int .i64 0) (.int .i64 1024)).run Yba.prog w = .ok (.slice (some ⟨w.heap.size, 0, none⟩) 0 1024) (w.alloc (.cells cells 77)) := by
  obtain ⟨i, hi, hz, hs, hb⟩ := info_parts info77
  refine ⟨madeCells (Value.cells (.agg #[.int .i64 0, .int .u64 0, .int .i64 0, .int .u32 0, .int .u32 0, .int .u32 0])) (1024 * 6), by simp [madeCells], fun w => ?_⟩
  have hr := run_make (P := Yba.prog) w 36 77 i _ Yba.underlying36 hi hz .i64 .i64 0 1024 (by omega) (by omega) (by rw [hb]; omega) (by omega)
  rw [hs] at hr
  exact hr

set_option maxRecDepth 100000 in
set_option maxHeartbeats 4000000 in
theorem add_ok (e : Ent) (bv : Value) (B P : Nat) (cs : Array Value) (va vb ve : Value) (made : Bool) (arrs : List (Value × List UInt8)) (es : List Kep) (w : World)
    (hK : Kept w B P cs va vb ve made arrs es) (hBw : B ≤ w.heap.size) (hsz : e.name.size + e.body.length ≤ 1048576)
    (hb : Rd w bv e.body) (hbv : ∀ k, rdB bv = some k → k < B ∧ k ≠ P) (hes : es.length < 1024) (hal : arrs.length ≤ es.length) (hbd : ∀ p ∈ arrs, p.2.length ≤ 1048576 * es.length) :
    Calls Yba.prog 11 #[.pointer (some ⟨P, 9, none⟩), .agg #[.int .i64 e.fr, .int .u64 e.seq, bv, .string e.name]] w fun en w' => en = .returned (.tuple #[]) ∧
      ∃ cs' va' vb' ve' arrs' y, Kept w' B P cs' va' vb' ve' true arrs' (es ++ [y]) ∧ y.e = e ∧ Frm (fun k => k = P ∨ B ≤ k) w w' ∧ (∀ j, j ≠ 10 → j ≠ 12 → j ≠ 13 → cs'[j]? = cs[j]?) ∧
      arrs'.length ≤ es.length + 1 ∧ ∀ p ∈ arrs', p.2.length ≤ 1048576 * (es.length + 1) := by
  obtain ⟨pv, cv, rfl⟩ := hb.form
  have hs' : (e.name.size : Int) + (e.body.length : Int) ≤ 1048576 := by omega
  have hf0 : Frm (fun k => k = P ∨ B ≤ k) w (w.alloc (Obj.cells #[Value.int IntKind.i64 e.fr, Value.int IntKind.u64 e.seq, Value.slice pv e.body.length cv, Value.string e.name] 70)) := (Frm.refl _ _).alloc _
  have hx0 := Blk.new w #[Value.int IntKind.i64 e.fr, Value.int IntKind.u64 e.seq, Value.slice pv e.body.length cv, Value.string e.name] 70
  have hK0 := hK.frm (S := fun _ => False) ((Frm.refl _ w).alloc (Obj.cells #[Value.int IntKind.i64 e.fr, Value.int IntKind.u64 e.seq, Value.slice pv e.body.length cv, Value.string e.name] 70)) id (fun _ _ _ => id)
  obtain ⟨pa, ca, rfl, hna, hca, hpa⟩ := owns_form hK.ownA
  have hltB := hK.ltB
  have hltE := owns_lt hK.ownE
  have hlw := hK.pb.lt
  have hlow := hK.low
  have c13 : w.cell? ⟨P, 13, none⟩ = some (.slice pa arrs.length ca) := (hK.pb.cell 13).trans hK.c13
  have hal' : (arrs.length : Int) ≤ 1024 := by omega
  go_enter Yba.func11, Yba.ntmps11
  go_upto_region 3 with fail
  go_cut [5, 44] (fun s5 s44 wx => s5 = .int .i64 ((arrs.length : Int) - 1) ∧ ∃ q, wx = (w.alloc (Obj.cells #[Value.int IntKind.i64 e.fr, Value.int IntKind.u64 e.seq, Value.slice pv e.body.length cv, Value.string e.name] 70)).drewN q ∧
    ((s44 = .bool true) ∨ (s44 = .bool false ∧ arrs ≠ [])))
  case first =>
    rcases List.eq_nil_or_concat arrs with h0 | ⟨init, ⟨x, bs⟩, h0⟩
    · have hn0 : (arrs.length : Int) - 1 < 0 := by rw [h0]; simp
      go_quiet (fail)
      go_wp2_with fail
      go_meet
      exact ⟨rfl, _, rfl, .inl rfl⟩
    · rw [List.concat_eq_append] at h0
      have hl0 : arrs.length = init.length + 1 := by rw [h0]; simp
      have hn0 : ¬ ((arrs.length : Int) - 1 < 0) := by omega
      have hmx : (x, bs) ∈ arrs := by rw [h0]; simp
      obtain ⟨px, cx, hxv, hnx, hcx, _⟩ := owns_form (hK.ownX _ hmx)
      simp only at hxv hnx
      obtain ⟨ga, rfl⟩ := hpa (by omega)
      have hA := hK.ownA
      have c1 : w.cell? ⟨ga, init.length, none⟩ = some (.slice px bs.length cx) := by
        refine owns_cell hA ?_
        rw [h0, ← hxv]
        simp
      have hga := (owns_lt hA ga rfl).2
      have hbs := hbd _ hmx
      simp only at hbs
      unfold maxLen at hcx hca
      have hcx' : (cx : Int) ≤ 9223372036854775807 := by omega
      have hnx' : (bs.length : Int) ≤ (cx : Int) := by omega
      clear hbd hK hK0 hx0 hf0 hb hbv hpa hA
      have hb0 : (init.length : Int) < (init.length : Int) + 1 := by omega
      have hb1 : (0 : Int) ≤ (init.length : Int) := by omega
      have hb2 : decide ((init.length : Int) < 0) = false := by simp
      by_cases hgt : (cx : Int) - (bs.length : Int) < (e.name.size : Int) + (e.body.length : Int)
      · go_quiet (fail)
        go_wp2_with fail
        go_meet
        exact ⟨by rw [hl0]; simp, _, rfl, .inl rfl⟩
      · go_quiet (fail)
        go_wp2_with fail
        go_meet
        exact ⟨by rw [hl0]; simp, _, rfl, .inr ⟨rfl, by rw [h0]; simp⟩⟩
  case rest =>
    obtain ⟨rfl, q, rfl, hs44⟩ := hcut
    have hK1 := hK0.frm (S := fun _ => False) ((Frm.refl _ _).drewN q) id (fun _ _ _ => id)
    have hx1 := hx0.drewN q
    have hf1 := hf0.drewN q
    have hz1 : ((w.alloc (Obj.cells #[Value.int IntKind.i64 e.fr, Value.int IntKind.u64 e.seq, Value.slice pv e.body.length cv, Value.string e.name] 70)).drewN q).heap.size = w.heap.size + 1 := by simp
    generalize (w.alloc (Obj.cells #[Value.int IntKind.i64 e.fr, Value.int IntKind.u64 e.seq, Value.slice pv e.body.length cv, Value.string e.name] 70)).drewN q = W at hK1 hx1 hf1 hz1 ⊢
    clear hK0 hx0 hf0
    have hXA : (Value.slice pa arrs.length ca).ownBlock ≠ some w.heap.size := fun h => by have := (owns_lt hK.ownA _ h).2; omega
    go_upto_if 44 with fail
    go_cut [5] (fun s5 wx => ∃ (va' : Value) (cs' : Array Value) (init : List (Value × List UInt8)) (x : Value) (bs : List UInt8), s5 = .int .i64 init.length ∧ Kept wx B P cs' va' vb ve made (init ++ [(x, bs)]) es ∧
      Blk wx w.heap.size #[Value.int IntKind.i64 e.fr, Value.int IntKind.u64 e.seq, Value.slice pv e.body.length cv, Value.string e.name] 70 ∧ Frm (fun k => k = P ∨ B ≤ k) w wx ∧ (∀ j, j ≠ 13 → cs'[j]? = cs[j]?) ∧ va'.ownBlock ≠ some w.heap.size ∧ x.ownBlock ≠ some w.heap.size ∧
      init.length ≤ es.length ∧ bs.length ≤ 1048576 * es.length ∧ ∀ p ∈ init, p.2.length ≤ 1048576 * es.length)
    case first =>
      rcases hs44 with rfl | ⟨rfl, hne⟩
      · obtain ⟨i0, hi, hy0, hy1, hy2⟩ := info_parts info62
        have d13 : W.cell? ⟨P, 13, none⟩ = some (.slice pa arrs.length ca) := (hK1.pb.cell 13).trans hK1.c13
        have key : ∀ (c : Nat) (va' : Value) (w1 : World), c ≤ 1048576 → ((W.alloc (.cells (madeCells #[.int .u8 0] c) 5)).alloc (.cells #[.slice (some ⟨w.heap.size + 1, 0, none⟩) 0 c] 62)).drew.grownBy w1 (Value.slice pa arrs.length ca).ownBlock →
            w1.ownsRow B 62 1 va' (arrs.length + 1) (arrs.map (·.1) ++ [.slice (some ⟨w.heap.size + 1, 0, none⟩) 0 c]) → (va'.ownBlock = (Value.slice pa arrs.length ca).ownBlock ∨ va'.ownBlock = some ((W.alloc (.cells (madeCells #[.int .u8 0] c) 5)).alloc (.cells #[.slice (some ⟨w.heap.size + 1, 0, none⟩) 0 c] 62)).drew.heap.size) →
            ∃ (va'' : Value) (cs' : Array Value) (init : List (Value × List UInt8)) (x : Value) (bs : List UInt8), Value.int .i64 (arrs.length : Int) = .int .i64 init.length ∧ Kept (w1.setCell ⟨P, 13, none⟩ va') B P cs' va'' vb ve made (init ++ [(x, bs)]) es ∧
      Blk (w1.setCell ⟨P, 13, none⟩ va') w.heap.size #[Value.int IntKind.i64 e.fr, Value.int IntKind.u64 e.seq, Value.slice pv e.body.length cv, Value.string e.name] 70 ∧ Frm (fun k => k = P ∨ B ≤ k) w (w1.setCell ⟨P, 13, none⟩ va') ∧ (∀ j, j ≠ 13 → cs'[j]? = cs[j]?) ∧ va''.ownBlock ≠ some w.heap.size ∧ x.ownBlock ≠ some w.heap.size ∧
      init.length ≤ es.length ∧ bs.length ≤ 1048576 * es.length ∧ ∀ p ∈ init, p.2.length ≤ 1048576 * es.length := by
          intro c va' w1 hc hg hA hat
          have hf2 : Frm (fun k => (Value.slice pa arrs.length ca).ownBlock = some k) W w1 := (((Frm.refl _ W).alloc _).alloc _).drew.trans (Frm.grown hg) (fun _ _ h => h)
          have hsz2 : ((W.alloc (.cells (madeCells #[.int .u8 0] c) 5)).alloc (.cells #[.slice (some ⟨w.heap.size + 1, 0, none⟩) 0 c] 62)).drew.heap.size = w.heap.size + 1 + 2 := by simp [hz1]
          have hX : w1.ownsRow B 5 1 (.slice (some ⟨w.heap.size + 1, 0, none⟩) 0 c) 0 [] := by
            have h1 := World.ownsRow_made (base := B) (e := 5) (size := 1) W (madeCells #[.int .u8 0] c) c (by omega) (by unfold maxLen; omega) (by simp [madeCells])
            rw [hz1] at h1
            have h2 := (h1.alloc (.cells #[.slice (some ⟨w.heap.size + 1, 0, none⟩) 0 c] 62))
            exact (Frm.grown hg).owns (by exact h2) fun k hk hk' => by
              have : w.heap.size + 1 = k := Option.some.inj hk
              have := (owns_lt hK1.ownA k hk').2
              omega
          have hK2 := hK1.newArray hf2 hA (orMap hat id fun h => ⟨_, h, by rw [hsz2]; omega⟩) hX (by rw [hz1]; rfl)
          refine ⟨va', _, arrs, _, [], rfl, hK2, ?_, ?_, fun j hj => Array.getElem?_setIfInBounds_ne (Ne.symm hj), ?_, ?_, hal, by simp, hbd⟩
          · exact ((Frm.refl (fun k => k = P) w1).setCell ⟨P, 13, none⟩ va' (fun _ => rfl)).blk (hf2.blk hx1 (fun h => by have := (owns_lt hK.ownA _ h).2; omega)) (by omega)
          · refine (hf1.trans hf2 (fun j hj h => .inr (owns_lt hK.ownA _ h).1)).setCell _ _ (fun _ => .inl rfl)
          · intro h
            rcases hat with h' | h'
            · have := (owns_lt hK.ownA _ (h' ▸ h)).2
              omega
            · rw [hsz2, h] at h'
              have := Option.some.inj h'
              omega
          · intro h
            have : w.heap.size + 1 = w.heap.size := Option.some.inj h
            omega
        obtain ⟨c, hc, hif⟩ : ∃ c : Nat, c ≤ 1048576 ∧ (if (65536 : Int) < (e.name.size : Int) + (e.body.length : Int) then (e.name.size : Int) + (e.body.length : Int) else 65536) = (c : Int) := by
          by_cases hm : (65536 : Int) < (e.name.size : Int) + (e.body.length : Int)
          · exact ⟨e.name.size + e.body.length, hsz, by rw [if_pos hm]; omega⟩
          · exact ⟨65536, by omega, by rw [if_neg hm]; rfl⟩
        have hmk := make_bytes c (by omega)
        have kp : ∀ w1, ((W.alloc (.cells (madeCells #[.int .u8 0] c) 5)).alloc (.cells #[.slice (some ⟨w.heap.size + 1, 0, none⟩) 0 c] 62)).drew.grownBy w1 (Value.slice pa arrs.length ca).ownBlock → w1.cell? ⟨P, 13, none⟩ = some (.slice pa arrs.length ca) ∧ w1.frozen? ⟨P, 13, none⟩ = false := fun w1 hg => by
          have hf2 : Frm (fun k => (Value.slice pa arrs.length ca).ownBlock = some k) W w1 := (((Frm.refl _ W).alloc _).alloc _).drew.trans (Frm.grown hg) (fun _ _ h => h)
          have hb2 := hf2.blk hK1.pb (fun h => by have := (owns_lt hK.ownA _ h).1; omega)
          exact ⟨(hb2.cell 13).trans hK1.c13, hb2.frozen 13⟩
        have hPW := hK1.pb.lt
        have d13a : ∀ o, (W.alloc o).cell? ⟨P, 13, none⟩ = some (.slice pa arrs.length ca) := fun o => (((Frm.refl (fun _ => False) W).alloc o).cell (a := ⟨P, 13, none⟩) hPW id).trans d13
        have d13b : ∀ o1 o2, ((W.alloc o1).alloc o2).cell? ⟨P, 13, none⟩ = some (.slice pa arrs.length ca) := fun o1 o2 => ((((Frm.refl (fun _ => False) W).alloc o1).alloc o2).cell (a := ⟨P, 13, none⟩) hPW id).trans d13
        go_wp2_with fail
        go_region_law (first | (refine step_append_src _ (by rfl) _ _ 37 37 (by rfl) B 62 i0 (.slice none 0 0) 1 24 Yba.underlying37 hi hy0 hy1 hy2 rfl (.slice pa arrs.length ca) arrs.length (arrs.map (·.1)) (by rfl) (by exact ((hK1.ownA.alloc _).alloc _)) _ (by rfl) 1 [.slice (some ⟨w.heap.size + 1, 0, none⟩) 0 c] (src_new Yba.underlying37 rfl (by simp [hz1])) (by omega) (by omega) (by simp [hz1]; omega) ?_; intro va' w1 hA hg hat; obtain ⟨kp1, kp2⟩ := kp w1 hg; obtain ⟨pa', ca', rfl, _, _, _⟩ := owns_form hA))
        all_goals
          go_wp2_with fail
          go_meet
          exact key c _ _ hc hg hA hat
      · go_wp2_with fail
        go_meet
        rcases List.eq_nil_or_concat arrs with h0 | ⟨init, ⟨x, bs⟩, h0⟩
        · exact absurd h0 hne
        · rw [List.concat_eq_append] at h0
          have hmx : (x, bs) ∈ arrs := by rw [h0]; simp
          have hl0 : arrs.length = init.length + 1 := by rw [h0]; simp
          refine ⟨_, cs, init, x, bs, by rw [hl0]; simp, h0 ▸ hK1, hx1, hf1, fun _ _ => rfl, hXA, fun h => ?_, by omega, hbd _ hmx, fun p hp => hbd p (by rw [h0]; exact List.mem_append_left _ hp)⟩
          have := (owns_lt (hK.ownX _ hmx) _ h).2
          omega
    case rest =>
      obtain ⟨va', cs', init, x, bs, rfl, hK2, hx2, hf2, hcs, hvx, hxx, hi1, hb1, hb2⟩ := hcut
      clear hK1 hx1 hf1 hz1 hXA hK c13
      have hil : (init ++ [(x, bs)]).length = init.length + 1 := by simp
      obtain ⟨pa', ca', hva', hna', hca', hpa'⟩ := owns_form hK2.ownA
      rw [hil] at hna' hpa' hva'
      obtain ⟨ga, rfl⟩ := hpa' (by omega)
      subst hva'
      have hmx : (x, bs) ∈ init ++ [(x, bs)] := by simp
      obtain ⟨px, cx, hxv, hnx, hcx, _⟩ := owns_form (hK2.ownX _ hmx)
      simp only at hxv hnx
      subst hxv
      obtain ⟨i0, hi, hy0, hy1, hy2⟩ := info_parts info5
      have c13 := (hK2.pb.cell 13).trans hK2.c13
      have hoA := hK2.ownA
      rw [hil] at hoA
      have cga := owns_cell hoA (i := init.length) (u := .slice px bs.length cx) (by simp)
      have c0 := (hx2.cell 0).trans (show _ = some (.int .i64 e.fr) from rfl)
      have c1 := (hx2.cell 1).trans (show _ = some (.int .u64 e.seq) from rfl)
      have c2 := (hx2.cell 2).trans (show _ = some (.slice pv e.body.length cv) from rfl)
      have c3 := (hx2.cell 3).trans (show _ = some (.string e.name) from rfl)
      have hil' : (init.length : Int) ≤ 1024 := by omega
      have hil0 : (0 : Int) ≤ (init.length : Int) := by omega
      have hil1 : (init.length : Int) < (init.length : Int) + 1 := by omega
      have hil2 : decide ((init.length : Int) < 0) = false := by simp
      go_upto_region 7 with fail
      have hox := hK2.ownX _ hmx
      simp only at hox
      have hbl : bs.length ≤ 1073741824 := by omega
      have hbk := hb.frm hf2 (fun k hk h => by have := hbv k hk; omega)
      have hvx' : ga ≠ w.heap.size := fun h => hvx (by rw [h]; rfl)
      have hgaB := owns_lt hoA ga rfl
      have hBc : B ≤ wc.heap.size := by omega
      have kp : ∀ w1, Frm (fun k => (Value.slice px bs.length cx).ownBlock = some k) wc w1 → w1.cell? ⟨P, 13, none⟩ = some (.slice (some ⟨ga, 0, none⟩) (init.length + 1) ca') ∧ w1.cell? ⟨w.heap.size, 2, none⟩ = some (.slice pv e.body.length cv) ∧ w1.cell? ⟨w.heap.size, 3, none⟩ = some (.string e.name) ∧
          w1.cell? ⟨ga, init.length, none⟩ = some (.slice px bs.length cx) ∧ w1.frozen? ⟨ga, init.length, none⟩ = false := fun w1 hf => by
        have hnx' : ∀ k, (Value.slice px bs.length cx).ownBlock = some k → k ≠ P ∧ k ≠ w.heap.size ∧ k ≠ ga := fun k hk => by
          refine ⟨fun h => ?_, fun h => ?_, fun h => ?_⟩
          · have := (owns_lt hox k hk).1
            omega
          · exact hxx (h ▸ hk)
          · exact hK2.apXA _ hmx k hk (by rw [h]; rfl)
        have b1 := hf.blk hK2.pb (fun h => (hnx' _ h).1 rfl)
        have b2 := hf.blk hx2 (fun h => (hnx' _ h).2.1 rfl)
        have b3 := hf.owns hoA (fun k hk h => (hnx' _ h).2.2 (Option.some.inj hk).symm)
        refine ⟨(b1.cell 13).trans hK2.c13, b2.cell 2, b2.cell 3, owns_cell b3 (by simp), ?_⟩
        rcases b3.2 with ⟨h, _⟩ | ⟨g, cap, cur, h, _, hg, _⟩
        · cases h
        · cases h
          exact Blk.frozen (t := 62) hg _
      go_cut [] (fun wx => ∃ x', Kept wx B P cs' (.slice (some ⟨ga, 0, none⟩) (init.length + 1) ca') vb ve made (init ++ [(x', bs ++ (e.name.data.toList ++ e.body))]) es ∧
        Blk wx w.heap.size #[Value.int IntKind.i64 e.fr, Value.int IntKind.u64 e.seq, Value.slice pv e.body.length cv, Value.string e.name] 70 ∧ Frm (fun k => k = P ∨ B ≤ k) w wx)
      case first =>
        have hgaP : ga ≠ P := by omega
        rw [show Op.load 62 (Operand.tmp 77) = later (Op.load 62 (Operand.tmp 77)) from rfl]
        go_region_held3 (fun w' => w'.cell? ⟨P, 13, none⟩ = some (.slice (some ⟨ga, 0, none⟩) (init.length + 1) ca') ∧ w'.cell? ⟨w.heap.size, 2, none⟩ = some (.slice pv e.body.length cv) ∧ w'.cell? ⟨w.heap.size, 3, none⟩ = some (.string e.name)) (go_keep) (first
          | (refine step_append_src _ (by rfl) _ _ 62 9 (by rfl) B 5 i0 (.int .u8 0) 1 1 Yba.underlying62 hi hy0 hy1 hy2 rfl (.slice px bs.length cx) _ _ (by rfl) (by exact hox) _ (by rfl) _ _ (Src.str e.name) (by omega) (by omega) (by exact hBc) ?_; intro v1 w1 own1 gw1 hat1; have g1 := (Grew.refl (.slice px bs.length cx) wc).drew.trans (Grew.append gw1 hat1); obtain ⟨k1, k2, k3, k4, k5⟩ := (kp w1 g1.1); obtain ⟨p1, n1, rfl, _, _, _⟩ := owns_form own1)
          | (refine step_append_src _ (by rfl) _ _ 62 62 (by rfl) B 5 i0 (.int .u8 0) 1 1 Yba.underlying62 hi hy0 hy1 hy2 rfl _ _ _ (by rfl) (by exact own1) _ (by rfl) _ _ ((hbk.frm g1.1 (fun k hk h => by have := hbv k hk; have := (owns_lt hox k h).1; omega)).src Yba.underlying62) (by omega) (by omega) (by have := g1.1.size; simp; omega) ?_; intro v2 w2 own2 gw2 hat2; have g2 := g1.trans (Grew.append gw2 hat2); obtain ⟨k6, k7, k8, k9, k10⟩ := (kp w2 g2.1); obtain ⟨p2, n2, rfl, _, _, _⟩ := owns_form own2))
        go_wp2_with fail
        go_meet
        have hX : w2.ownsRow B 5 1 _ (bs ++ (e.name.data.toList ++ e.body)).length (Lib.byteCells (bs ++ (e.name.data.toList ++ e.body))) := owns_cast own2 (by rw [size_list]; simp; omega) (by simp [byteCells_app])
        refine ⟨_, hK2.extend rfl g2 hX, ?_, ?_⟩
        · exact ((Frm.refl (fun k => k = ga) w2).setCell ⟨ga, init.length, none⟩ _ (fun _ => rfl)).blk (g2.1.blk hx2 (fun h => hxx h)) (fun h => hvx' h.symm)
        · refine (hf2.trans g2.1 (fun j hj h => .inr (owns_lt hox _ h).1)).setCell _ _ (fun _ => .inr hgaB.1)
      case rest =>
        obtain ⟨x', hK3, hx3, hf3⟩ := hcut
        have hBl := hf3.size
        have hvb : vb.ownBlock ≠ some w.heap.size := fun h => by
          have := (hltB _ h).2
          omega
        have hveB : ve.ownBlock ≠ some w.heap.size := fun h => by
          have := (hltE _ h).2
          omega
        clear hK2 hx2 hf2 c13 hoA cga c0 c1 c2 c3 kp hox hbk
        have c10 := (hK3.pb.cell 10).trans hK3.c10
        have c12 := (hK3.pb.cell 12).trans hK3.sp
        have hfoB := hK3.ownB
        have hes0 : es = [] → es.length = 0 := fun h => by rw [h]; rfl
        go_upto_region 8 with fail
        go_cut [107] (fun s107 wx => s107 = .bool (!made) ∧ ∃ q, wx = wc.drewN q)
        case first =>
          cases made with
          | false =>
            obtain ⟨rfl, rfl, h0⟩ : vb = .slice none 0 0 ∧ ve = .slice none 0 0 ∧ es = [] := by simpa using hfoB
            clear hK3 hfoB hltB hltE hbd hb hbv
            go_quiet (fail)
            go_wp2_with fail
            go_meet
            exact ⟨rfl, _, rfl⟩
          | true =>
            simp only [if_true] at hfoB
            obtain ⟨pb, cb, rfl, hnb, hcb, hpb⟩ := owns_form hfoB
            obtain ⟨gb, rfl⟩ := hpb (by omega)
            obtain ⟨pe, ce, rfl, hne, hce, hpe⟩ := owns_form hK3.ownE
            have cgb := owns_cell hfoB (i := 0) (u := .slice pe es.length ce) rfl
            have hes' : (es.length : Int) < 1024 := by omega
            clear hK3 hfoB hltB hltE hbd hb hbv
            go_quiet (fail)
            go_wp2_with fail
            go_meet
            exact ⟨congrArg Value.bool (by simp; omega), _, rfl⟩
        case rest =>
          obtain ⟨rfl, q, hwc⟩ := hcut
          have hK4 := hK3.frm (S := fun _ => False) ((Frm.refl _ _).drewN q) id (fun _ _ _ => id)
          have hx4 := hx3.drewN q
          have hf4 := hf3.drewN q
          rw [← hwc] at hK4 hx4 hf4
          clear hwc
          clear hK3 hx3 hf3 c10 c12 hfoB hBc hgaB hBl
          have hBl := hf4.size
          go_upto_if 107 with fail
          go_cut [] (fun wx => ∃ (cs2 : Array Value) (gb cb : Nat) (pe : Option Addr) (ce : Nat), Kept wx B P cs2 (.slice (some ⟨ga, 0, none⟩) (init.length + 1) ca') (.slice (some ⟨gb, 0, none⟩) 1 cb) (.slice pe es.length ce) true (init ++ [(x', bs ++ (e.name.data.toList ++ e.body))]) es ∧
            Blk wx w.heap.size #[Value.int IntKind.i64 e.fr, Value.int IntKind.u64 e.seq, Value.slice pv e.body.length cv, Value.string e.name] 70 ∧ Frm (fun k => k = P ∨ B ≤ k) w wx ∧
            (∀ j, j ≠ 10 → j ≠ 12 → j ≠ 13 → cs2[j]? = cs[j]?) ∧ gb ≠ w.heap.size ∧ (Value.slice pe es.length ce).ownBlock ≠ some w.heap.size)
          case first =>
            have hfoB := hK4.ownB
            cases made with
            | true =>
              simp only [if_true] at hfoB
              obtain ⟨pb, cb, rfl, hnb, hcb, hpb⟩ := owns_form hfoB
              obtain ⟨gb, rfl⟩ := hpb (by omega)
              obtain ⟨pe, ce, rfl, hne, hce, hpe⟩ := owns_form hK4.ownE
              go_wp2_with fail
              go_meet
              exact ⟨cs', gb, cb, pe, ce, hK4, hx4, hf4, fun j _ _ h13 => hcs j h13, fun h => hvb (by rw [h]; rfl), hveB⟩
            | false =>
              obtain ⟨rfl, rfl, rfl⟩ : vb = .slice none 0 0 ∧ ve = .slice none 0 0 ∧ es = [] := by simpa using hfoB
              have c10 := (hK4.pb.cell 10).trans hK4.c10
              have c12 := (hK4.pb.cell 12).trans hK4.sp
              obtain ⟨cells, hcz, hmk⟩ := make_entries
              have heql := fun w : World => Lib.run_eql_slice_nil (P := Yba.prog) w 36 77 none 0 0 0 0 Yba.underlying36
              have hPc := hK4.pb.lt
              obtain ⟨j0, hj, hj0, hj1, hj2⟩ := info_parts info36
              have d10 : ∀ o, (wc.alloc o).cell? ⟨P, 10, none⟩ = some (.slice none 0 0) := fun o => (((Frm.refl (fun _ => False) wc).alloc o).cell (a := ⟨P, 10, none⟩) hPc id).trans c10
              have d10b : ∀ o1 o2, ((wc.alloc o1).alloc o2).cell? ⟨P, 10, none⟩ = some (.slice none 0 0) := fun o1 o2 => ((((Frm.refl (fun _ => False) wc).alloc o1).alloc o2).cell (a := ⟨P, 10, none⟩) hPc id).trans c10
              go_wp2_with (at_builtin; refine wpList_append_src _ rfl _ _ 35 35 rfl B 36 j0 (.slice none 0 0) 1 24 Yba.underlying35 hj hj0 hj1 hj2 rfl (.slice none 0 0) 0 [] rfl (World.ownsRow_nil _ _ _ _) _ rfl 1 [.slice (some ⟨wc.heap.size, 0, none⟩) 0 1024] (src_newp Yba.underlying35 rfl (by simp)) (by omega) (by omega) (by simp; omega) ?_; intro v1 w1 own1 gw1 hat1; have g1 : Frm (fun _ => False) wc w1 := ((((Frm.refl _ wc).alloc _).alloc _).trans (Frm.grown gw1) (fun _ _ h => by cases h)); have b1 := g1.blk hK4.pb id; have k10 := (b1.cell 10).trans hK4.c10; have k12 := (b1.cell 12).trans hK4.sp; have f10 := b1.frozen 10; have f12 := b1.frozen 12; obtain ⟨pb, cb, rfl, hnb, hcb, hpb⟩ := (owns_form own1); obtain ⟨gb, rfl⟩ := hpb (by omega))
              go_meet
              have hX : w1.ownsRow B 77 6 (.slice (some ⟨wc.heap.size, 0, none⟩) 0 1024) 0 [] := by
                have h1 := World.ownsRow_made (base := B) (e := 77) (size := 6) wc cells 1024 (by omega) (by unfold maxLen; omega) hcz
                exact (Frm.grown gw1).owns (h1.alloc _) (fun _ _ h => by cases h)
              have hgb : gb = wc.heap.size + 2 := by
                rcases hat1 with h | h
                · cases h
                · have h2 : gb = _ := Option.some.inj h
                  simpa using h2
              refine ⟨_, gb, cb, some ⟨wc.heap.size, 0, none⟩, 1024, hK4.newBlock g1 own1 ⟨gb, rfl, by omega⟩ hX rfl, ?_, ?_, ?_, by omega, ?_⟩
              · exact Frm.blk (Frm.setCell (Frm.setCell (Frm.refl (fun k => k = P) w1) ⟨P, 10, none⟩ _ (fun _ => rfl)) ⟨P, 12, none⟩ _ (fun _ => rfl)) (g1.blk hx4 id) (by omega)
              · exact Frm.setCell (Frm.setCell (hf4.trans g1 (fun _ _ h => h.elim)) _ _ (fun _ => .inl rfl)) _ _ (fun _ => .inl rfl)
              · intro j h10 h12 h13
                rw [Array.getElem?_setIfInBounds_ne (Ne.symm h12), Array.getElem?_setIfInBounds_ne (Ne.symm h10)]
                exact hcs j h13
              · intro h
                have : wc.heap.size = w.heap.size := Option.some.inj h
                have := hx4.lt
                omega
          case rest =>
            obtain ⟨cs2, gb, cb, pe, ce, hK5, hx5, hf5, hcs2, hgb, hve5⟩ := hcut
            clear hK4 hx4 hf4
            have hfoB : wc.ownsRow B 36 1 (.slice (some ⟨gb, 0, none⟩) 1 cb) 1 [.slice pe es.length ce] := by
              have := hK5.ownB
              simpa using this
            have c10 := (hK5.pb.cell 10).trans hK5.c10
            have c14 := (hK5.pb.cell 14).trans hK5.dr
            have cgb := owns_cell hfoB (i := 0) (u := .slice pe es.length ce) rfl
            have c0 := (hx5.cell 0).trans (show _ = some (.int .i64 e.fr) from rfl)
            have c1 := (hx5.cell 1).trans (show _ = some (.int .u64 e.seq) from rfl)
            have c2 := (hx5.cell 2).trans (show _ = some (.slice pv e.body.length cv) from rfl)
            have c3 := (hx5.cell 3).trans (show _ = some (.string e.name) from rfl)
            go_upto_region 13 with fail
            go_cut [8] (fun s8 wx => s8 = .pointer (some ⟨gb, 0, none⟩) ∧ ∃ q, wx = wc.drewN q)
            case first =>
              clear hK5 hfoB hx5 hf5 hbd hb hbv hb2 hltB hltE
              go_quiet (fail)
              go_wp2_with fail
              go_meet
              exact ⟨rfl, _, rfl⟩
            case rest =>
              obtain ⟨rfl, q, hwc⟩ := hcut
              have hK6 := hK5.frm (S := fun _ => False) ((Frm.refl _ _).drewN q) id (fun _ _ _ => id)
              have hx6 := hx5.drewN q
              have hf6 := hf5.drewN q
              rw [← hwc] at hK6 hx6 hf6
              clear hwc hK5 hx5 hf5 hfoB c10 c14 cgb c0 c1 c2 c3
              have hfoB : wc.ownsRow B 36 1 (.slice (some ⟨gb, 0, none⟩) 1 cb) 1 [.slice pe es.length ce] := by
                have := hK6.ownB
                simpa using this
              have c14 := (hK6.pb.cell 14).trans hK6.dr
              have cgb := owns_cell hfoB (i := 0) (u := .slice pe es.length ce) rfl
              have c0 := (hx6.cell 0).trans (show _ = some (.int .i64 e.fr) from rfl)
              have c1 := (hx6.cell 1).trans (show _ = some (.int .u64 e.seq) from rfl)
              have c2 := (hx6.cell 2).trans (show _ = some (.slice pv e.body.length cv) from rfl)
              have c3 := (hx6.cell 3).trans (show _ = some (.string e.name) from rfl)
              have hPc := hK6.pb.lt
              have hXc := hx6.lt
              have hgbB := owns_lt hfoB gb rfl
              have hgbP : gb ≠ P := by omega
              have u1 : IntKind.u32.wrap (bs.length : Int) = bs.length := by rw [IntKind.wrap_u32]; omega
              have u2 : IntKind.u32.wrap (e.name.size : Int) = e.name.size := by rw [IntKind.wrap_u32]; omega
              have u3 : IntKind.u32.wrap (e.body.length : Int) = e.body.length := by rw [IntKind.wrap_u32]; omega
              obtain ⟨j0, hj, hj0, hj1, hj2⟩ := info_parts info77
              have hoE := hK6.ownE
              have u4 : IntKind.i64.wrap (init.length : Int) = init.length := by rw [IntKind.wrap_i64]; omega
              have hs6 : ∀ W : World, Src Yba.prog 6 36 (.slice (some ⟨W.heap.size, 0, none⟩) 1 1) 1 [.int .i64 e.fr, .int .u64 e.seq, .int .i64 init.length, .int .u32 bs.length, .int .u32 e.name.size, .int .u32 e.body.length] (W.alloc (.cells #[.int .i64 e.fr, .int .u64 e.seq, .int .i64 init.length, .int .u32 bs.length, .int .u32 e.name.size, .int .u32 e.body.length] 77)).drew := fun W => src_six Yba.underlying36 rfl (by intro u hu; simp at hu; rcases hu with rfl | rfl | rfl | rfl | rfl | rfl <;> rfl)
              go_upto_region 14 with fail
              rw [show Op.load 36 (Operand.tmp 141) = later (Op.load 36 (Operand.tmp 141)) from rfl]
              have kp : ∀ w1, Frm (fun k => (Value.slice pe es.length ce).ownBlock = some k) wc w1 → w1.cell? ⟨P, 14, none⟩ = some (.int .i64 0) ∧ (w1.cell? ⟨w.heap.size, 0, none⟩ = some (.int .i64 e.fr) ∧ w1.cell? ⟨w.heap.size, 1, none⟩ = some (.int .u64 e.seq) ∧ w1.cell? ⟨w.heap.size, 2, none⟩ = some (.slice pv e.body.length cv) ∧ w1.cell? ⟨w.heap.size, 3, none⟩ = some (.string e.name)) ∧
                  w1.cell? ⟨gb, 0, none⟩ = some (.slice pe es.length ce) ∧ w1.frozen? ⟨gb, 0, none⟩ = false := fun w1 hf => by
                have hnx' : ∀ k, (Value.slice pe es.length ce).ownBlock = some k → k ≠ P ∧ k ≠ w.heap.size ∧ k ≠ gb := fun k hk => by
                  refine ⟨fun h => ?_, fun h => ?_, fun h => ?_⟩
                  · have := (owns_lt hoE k hk).1
                    omega
                  · exact hve5 (h ▸ hk)
                  · exact hK6.apBE k (by rw [h]; rfl) hk
                have b1 := hf.blk hK6.pb (fun h => (hnx' _ h).1 rfl)
                have b2 := hf.blk hx6 (fun h => (hnx' _ h).2.1 rfl)
                have b3 := hf.owns hfoB (fun k hk h => (hnx' _ h).2.2 (Option.some.inj hk).symm)
                refine ⟨(b1.cell 14).trans hK6.dr, ⟨b2.cell 0, b2.cell 1, b2.cell 2, b2.cell 3⟩, owns_cell b3 rfl, ?_⟩
                rcases b3.2 with ⟨h, _⟩ | ⟨g, cap, cur, h, _, hg, _⟩
                · cases h
                · cases h
                  exact Blk.frozen (t := 36) hg _
              have n1 : wc.heap.size ≠ P := by omega
              have n2 : wc.heap.size ≠ w.heap.size := by omega
              have n3 : wc.heap.size ≠ gb := by omega
              have hfin : ∀ p ∈ init ++ [(x', bs ++ (e.name.data.toList ++ e.body))], p.2.length ≤ 1048576 * (es.length + 1) := fun p hp => by
                rcases List.mem_append.1 hp with hp | hp
                · have := hb2 p hp
                  omega
                · obtain rfl : p = (x', bs ++ (e.name.data.toList ++ e.body)) := by simpa using hp
                  have := size_list e.name
                  simp only [List.length_append]
                  omega
              have hok := ok_last e init x' bs
              have hlast : (init ++ [(x', bs ++ (e.name.data.toList ++ e.body))]).length ≤ es.length + 1 := by rw [List.length_append, List.length_singleton]; omega
              go_region_held3 (fun w' => w'.cell? ⟨P, 14, none⟩ = some (.int .i64 0) ∧ w'.cell? ⟨w.heap.size, 0, none⟩ = some (.int .i64 e.fr) ∧ w'.cell? ⟨w.heap.size, 1, none⟩ = some (.int .u64 e.seq) ∧ w'.cell? ⟨w.heap.size, 2, none⟩ = some (.slice pv e.body.length cv) ∧ w'.cell? ⟨w.heap.size, 3, none⟩ = some (.string e.name)) (go_keep) (first
                | (refine step_append_src _ (by rfl) _ _ 36 36 (by rfl) B 77 j0 _ 6 40 Yba.underlying36 hj hj0 hj1 hj2 rfl (.slice pe es.length ce) _ _ (by rfl) (by exact hoE.alloc _) _ (by rfl) 1 [.int .i64 e.fr, .int .u64 e.seq, .int .i64 init.length, .int .u32 bs.length, .int .u32 e.name.size, .int .u32 e.body.length] (hs6 wc) (by omega) (by omega) (by simp; omega) ?_; intro v1 w1 own1 gw1 hat1; have g1 := ((Grew.refl (.slice pe es.length ce) wc).alloc _).drew.trans (Grew.append gw1 hat1); obtain ⟨k1, ⟨k2, k3, k4, k5⟩, k6, k7⟩ := (kp w1 g1.1); obtain ⟨p1, n1, rfl, _, _, _⟩ := owns_form own1))
              all_goals
                go_wp2_with fail
                go_end0
                refine ⟨rfl, cs2, _, _, _, init ++ [(x', bs ++ (e.name.data.toList ++ e.body))], ⟨e, init.length, bs.length⟩, hK6.push rfl g1 own1 hok, rfl, ?_, hcs2, hlast, ?_⟩
                · exact (hf6.trans g1.1 (fun j hj h => .inr (owns_lt hoE _ h).1)).setCell _ _ (fun _ => .inr hgbB.1)
                · exact fun a b h => hfin (a, b) h
end Go.Proofs.Ybulkaryo
