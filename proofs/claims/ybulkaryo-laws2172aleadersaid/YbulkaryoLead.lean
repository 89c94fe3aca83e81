/-
  goOn at the sequencer; the walk of LawS2172ALeader.
-/
import Derived.Test.YbulkaryoTake
import Derived.Deep.CutBlock
namespace Go.Proofs.Ybulkaryo
open Go.RowKit

set_option maxRecDepth 100000 in
set_option maxHeartbeats 1000000 in
theorem goOn_lead (me n G R U H N : Nat) (g : Nat → Bool) (r : Nat → Rep) (tk inp : Bool) (B E P : Nat) (cs csH csN : Array Value) (va vb ve : Value) (made : Bool) (arrs : List (Value × List UInt8)) (es : List Kep) (sv z : Value) (L : List Snt) (w : World)
    (hK : Kept w B P cs va vb ve made arrs es) (hT : Tot cs E me n G R U H N es.length tk inp) (hG : Grp w G R U n g r) (hH : Blk w H csH 33) (hN : Blk w N csN 4) (hHs : csH.size = n) (hNs : csN.size = n) (hn : n ≤ 8) (hr : ∀ i, i < n → (r i).pl < 256)
    (hGB : G < B ∧ R < B ∧ U < B ∧ H < B ∧ N < B) (hdE : G ≠ E ∧ R ≠ E ∧ U ≠ E ∧ H ≠ E ∧ N ≠ E) (hdP : G ≠ P ∧ R ≠ P ∧ U ≠ P) (hdH : G ≠ H ∧ R ≠ H ∧ U ≠ H) (hdN : G ≠ N ∧ R ≠ N ∧ U ≠ N)
    (hE : Blk w E #[sv, z] 27) (hEB : E < B) (hF : Frames w B sv L) (hB : B ≤ w.heap.size)
    (hes : es.length ≤ 1024) (hL : L.length ≤ 1000) (hbd : ∀ p ∈ arrs, p.2.length ≤ 1073741824) (hfit : ∀ y ∈ es, y.e.fr < 256 ∧ y.e.seq < 18446744073709551616 ∧ y.e.name.size + y.e.body.length ≤ 1048576) :
    Calls Yba.prog 8 #[.pointer (some ⟨P, 0, none⟩)] w fun en w' => en = .returned .nilIface ∧
      (((tk && fine me es.length g r n) = false ∧ Frm (fun _ => False) w w') ∨ ((tk && fine me es.length g r n) = true ∧ Took w B E P H N n me g r inp cs (es.map (·.e)) z L w')) := by
  have c1 := (hK.pb.cell 1).trans hT.c1
  have c2 := (hK.pb.cell 2).trans hT.c2
  have c31 := (hK.pb.cell 31).trans hT.c31
  go_enter Yba.func8, Yba.ntmps8
  cases tk
  · go_wp2_with fail
    go_ret
    exact ⟨rfl, .inl ⟨rfl, Frm.refl _ _⟩⟩
  · go_upto_region 3 with fail
    go_quiet (fail)
    go_wp2_with fail
    refine (takeOver_ok me n G R U H N g r true inp B E P cs csH csN va vb ve made arrs es sv z L _ (hK.frm (S := fun _ => False) ((Frm.refl _ _).drewN _) id (fun _ _ _ => id)) hT (hG.frm (S := fun _ => False) ((Frm.refl _ _).drewN _) id id id) (hH.drewN _) (hN.drewN _) hHs hNs hn hr hGB hdE hdP hdH hdN (hE.drewN _) hEB (hF.frm (S := fun _ => False) ((Frm.refl _ _).drewN _) (fun _ _ _ => id)) (by exact hB) hes hL hbd hfit).mono ?_
    rintro e w1 ⟨rfl, h⟩
    go_wp2_with fail
    go_ret
    refine ⟨rfl, ?_⟩
    rcases h with ⟨h1, h2⟩ | ⟨h1, cs', sv', M, t1, t2, t3, t4, t5, t6, t7, t8, t9, t10⟩
    · exact .inl ⟨by simpa using h1, ((Frm.refl _ w).drewN _).trans h2 (fun _ _ h => h)⟩
    · exact .inr ⟨by simpa using h1, ⟨cs', sv', M, t1, t2, t3, t4, t5, t6, t7, t8, t9, ((Frm.refl _ w).drewN _).trans t10 (fun _ _ h => h)⟩⟩

/-- A report that came in. -/
structure RepA where
  md : Bool
  ot : Bool
  ld : Nat
  pl : Nat

/-- The slice of Booleans that came in. -/
structure GArg (w : World) (B : Nat) (v : Value) (len : Nat) (ga : Nat → Bool) : Prop where
  ex : ∃ p c, v = .slice p len c ∧ (0 < len → ∃ b o, p = some ⟨b, o, none⟩ ∧ b < B ∧ ∀ i, i < len → w.cell? ⟨b, o + i, none⟩ = some (.bool (ga i)))
/-- The slice of reports that came in. -/
structure RArg (w : World) (B : Nat) (v : Value) (len : Nat) (ra : Nat → RepA) : Prop where
  ex : ∃ p c, v = .slice p len c ∧ (0 < len → ∃ b o, p = some ⟨b, o, none⟩ ∧ b < B ∧ ∀ i, i < len → w.cell? ⟨b, o + i * 4, none⟩ = some (.bool (ra i).md) ∧ w.cell? ⟨b, o + i * 4 + 1, none⟩ = some (.bool (ra i).ot) ∧ w.cell? ⟨b, o + i * 4 + 2, none⟩ = some (.int .u8 (ra i).ld) ∧ w.cell? ⟨b, o + i * 4 + 3, none⟩ = some (.int .u8 (ra i).pl))

/-- Who is lost, as the law lays it. -/
def goneOf (lg : Nat) (ga : Nat → Bool) (i : Nat) : Bool := if i < lg then ga i else false
/-- The reports, as the law lays them. -/
def repOf (me n lr : Nat) (ra : Nat → RepA) (i : Nat) : Rep := if i < lr then ⟨(ra i).md, (ra i).pl, if (ra i).ot then (ra i).ld % n else me⟩ else ⟨false, 0, 0⟩
/-- Up to k they are laid. -/
def upTo {α : Type} (k : Nat) (f : Nat → α) (d : α) (i : Nat) : α := if i < k then f i else d

theorem made1 (x : Value) (n i : Nat) (h : i < n) : (madeCells #[x] n)[i]? = some x := by
  simp [madeCells, h, Nat.mod_one]
theorem made3 (x y z : Value) (n i : Nat) (h : i < n) : (madeCells #[x, y, z] (n * 3))[i * 3]? = some x ∧ (madeCells #[x, y, z] (n * 3))[i * 3 + 1]? = some y ∧ (madeCells #[x, y, z] (n * 3))[i * 3 + 2]? = some z := by
  have h0 : i * 3 < n * 3 := by omega
  have h1 : i * 3 + 1 < n * 3 := by omega
  have h2 : i * 3 + 2 < n * 3 := by omega
  have e0 : i * 3 % 3 = 0 := by omega
  have e1 : (i * 3 + 1) % 3 = 1 := by omega
  have e2 : (i * 3 + 2) % 3 = 2 := by omega
  simp [madeCells, h0, h1, h2, e0, e1, e2]

/-- The cells of the reports. -/
structure RepCells (n : Nat) (cR : Array Value) (r : Nat → Rep) : Prop where
  size : cR.size = n * 3
  at_ : ∀ i, i < n → cR[i * 3]? = some (.bool (r i).md) ∧ cR[i * 3 + 1]? = some (.int .u64 (r i).pl) ∧ cR[i * 3 + 2]? = some (.int .i64 (r i).ld)
/-- The cells of the Booleans. -/
structure GoneCells (n : Nat) (cG : Array Value) (g : Nat → Bool) : Prop where
  size : cG.size = n
  at_ : ∀ i, i < n → cG[i]? = some (.bool (g i))
theorem GoneCells.put {n k : Nat} {cG : Array Value} {g : Nat → Bool} (h : GoneCells n cG (upTo k g false)) (hk : k < n) : GoneCells n (cG.setIfInBounds k (.bool (g k))) (upTo (k + 1) g false) := by
  refine ⟨by rw [Array.size_setIfInBounds]; exact h.size, fun i hi => ?_⟩
  by_cases e : i = k
  · subst e
    rw [Array.getElem?_setIfInBounds_self_of_lt (by rw [h.size]; exact hi), upTo, if_pos (Nat.lt_succ_self _)]
  · rw [Array.getElem?_setIfInBounds_ne (Ne.symm e), h.at_ i hi]
    have : (i < k) = (i < k + 1) := by rw [eq_iff_iff]; omega
    simp [upTo, this]
theorem GoneCells.skip {n k : Nat} {cG : Array Value} {g : Nat → Bool} (h : GoneCells n cG (upTo k g false)) (hk : g k = false) : GoneCells n cG (upTo (k + 1) g false) := by
  refine ⟨h.size, fun i hi => ?_⟩
  rw [h.at_ i hi]
  by_cases e : i = k
  · subst e
    simp [upTo, hk]
  · have : (i < k) = (i < k + 1) := by rw [eq_iff_iff]; omega
    simp [upTo, this]
theorem RepCells.put {n k : Nat} {cR : Array Value} {r : Nat → Rep} (h : RepCells n cR (upTo k r ⟨false, 0, 0⟩)) (hk : k < n) : RepCells n (((cR.setIfInBounds (k * 3) (.bool (r k).md)).setIfInBounds (k * 3 + 1) (.int .u64 (r k).pl)).setIfInBounds (k * 3 + 2) (.int .i64 (r k).ld)) (upTo (k + 1) r ⟨false, 0, 0⟩) := by
  have hs := h.size
  refine ⟨by simp only [Array.size_setIfInBounds]; exact h.size, fun i hi => ?_⟩
  by_cases e : i = k
  · subst e
    rw [set3_0 _ _ _ _ (by omega), set3_1 _ _ _ _ (by omega), set3_2 _ _ _ _ (by omega), upTo, if_pos (Nat.lt_succ_self _)]
    exact ⟨rfl, rfl, rfl⟩
  · have : (i < k) = (i < k + 1) := by rw [eq_iff_iff]; omega
    have hn : ∀ a, a = k * 3 ∨ a = k * 3 + 1 ∨ a = k * 3 + 2 → ∀ b, b = i * 3 ∨ b = i * 3 + 1 ∨ b = i * 3 + 2 → a ≠ b := fun a ha b hb => by omega
    have hg : ∀ b, b = i * 3 ∨ b = i * 3 + 1 ∨ b = i * 3 + 2 → (((cR.setIfInBounds (k * 3) (.bool (r k).md)).setIfInBounds (k * 3 + 1) (.int .u64 (r k).pl)).setIfInBounds (k * 3 + 2) (.int .i64 (r k).ld))[b]? = cR[b]? := fun b hb => by
      rw [Array.getElem?_setIfInBounds_ne (hn _ (by simp) b hb), Array.getElem?_setIfInBounds_ne (hn _ (by simp) b hb), Array.getElem?_setIfInBounds_ne (hn _ (by simp) b hb)]
    rw [hg _ (by simp), hg _ (by simp), hg _ (by simp)]
    have := h.at_ i hi
    simpa [upTo, ‹(i < k) = (i < k + 1)›] using this
theorem RepCells.skip {n k : Nat} {cR : Array Value} {r : Nat → Rep} (h : RepCells n cR (upTo k r ⟨false, 0, 0⟩)) (hk : r k = ⟨false, 0, 0⟩) : RepCells n cR (upTo (k + 1) r ⟨false, 0, 0⟩) := by
  refine ⟨h.size, fun i hi => ?_⟩
  have h1 := h.at_ i hi
  by_cases e : i = k
  · subst e
    simpa [upTo, hk] using h1
  · have : (i < k) = (i < k + 1) := by rw [eq_iff_iff]; omega
    simpa [upTo, this] using h1

/-- How the nine blocks of the sequencer's memory lie. -/
structure Lie (w : World) (E P G R U H N : Nat) : Prop where
  low : w.heap.size = E
  gP : E < G ∧ G < P
  rP : E < R ∧ R < P
  uP : E < U ∧ U < P
  hP : E < H ∧ H < P
  nP : E < N ∧ N < P
  gr : G ≠ R
  gu : G ≠ U
  gh : G ≠ H
  gn : G ≠ N
  ru : R ≠ U
  rh : R ≠ H
  rn : R ≠ N
  uh : U ≠ H
  un : U ≠ N
  hn : H ≠ N

set_option maxRecDepth 100000 in
set_option maxHeartbeats 20000000 in
theorem lead_ok (a b : Nat) (ha : a < 256) (hb : b < 256) (tk inp : Bool) (vg vr v : Value) (lg lr : Nat) (ga : Nat → Bool) (ra : Nat → RepA) (ab ao : Nat) (es : List Ent) (w : World) (hvg : GArg w w.heap.size vg lg ga) (hvr : RArg w w.heap.size vr lr ra) (hra : ∀ i, i < lr → (ra i).ld < 256 ∧ (ra i).pl < 256)
    (hlg : lg ≤ 140737488355328) (hlr : lr ≤ 140737488355328) (hv' : ArgV v ab ao es.length) (hA : Args w w.heap.size ab ao es)
    (hl : es.length ≤ 140737488355328) (hsz : ∀ e ∈ es, e.name.size ≤ 140737488355328 ∧ e.body.length ≤ 140737488355328) (hfr : ∀ e ∈ es, e.fr < 256 ∧ e.seq < 18446744073709551616) :
    Calls Yba.prog 4 #[.int .u8 a, .int .u8 b, .bool tk, .bool inp, vg, vr, v] w fun en w' => en = .returned (.bool true) ∧ Frm (fun _ => False) w w' := by
  obtain ⟨p, cp, rfl, hp⟩ := hv'.form
  obtain ⟨pg, cg, rfl, hpg⟩ := hvg
  obtain ⟨pr, cr, rfl, hpr⟩ := hvr
  have ha' : (a : Int) < 256 := by omega
  have hb' : (b : Int) < 256 := by omega
  go_enter Yba.func4, Yba.ntmps4
  go_wp2_with fail
  refine (ok_ok _ ab ao w.heap.size es _ hv' hA hl hsz).mono ?_
  rintro e w1 ⟨rfl, q, rfl⟩
  by_cases hok : okAll es = true
  · rw [hok]
    have hok2 : es.length ≤ 1024 ∧ ∀ e ∈ es, e.name.size + e.body.length ≤ 1048576 := by
      unfold okAll okEnt at hok
      simp at hok
      exact ⟨by omega, fun e he => by have := hok.2 e he; omega⟩
    obtain ⟨hl2, hsz2⟩ := hok2
    have hfit : ∀ e ∈ es, e.fr < 256 ∧ e.seq < 18446744073709551616 ∧ e.name.size + e.body.length ≤ 1048576 := fun e he => ⟨(hfr e he).1, (hfr e he).2, hsz2 e he⟩
    clear hsz hsz2 hfr hok hl
    go_upto_region 4 with fail
    go_name_slot 15 nI hnI
    obtain ⟨n, rfl⟩ : ∃ n : Nat, nI = n := ⟨nI.toNat, by omega⟩
    have hn1 : (1 : Int) ≤ n := by omega
    have hn8 : (n : Int) ≤ 8 := by omega
    clear hnI
    go_upto_region 5 with fail
    go_name_slot 16 mI hmI
    have hm0 : 0 ≤ mI := by rw [← hmI]; exact Int.emod_nonneg _ (by omega)
    have hm1 : mI < n := by rw [← hmI]; exact Int.emod_lt_of_pos _ (by omega)
    obtain ⟨me, rfl⟩ : ∃ me : Nat, mI = me := ⟨mI.toNat, by omega⟩
    clear hmI
    go_wp2_with fail
    refine (newTotal_ok me n w.heap.size _ (by omega)).mono ?_
    rintro e w2 ⟨P, f, rfl, hM⟩
    have hf2 : Frm (fun _ => False) w w2 := (((Frm.refl _ w).drewN q).alloc _).trans hM.frm (fun _ _ h => h)
    have hE2 : Blk w2 w.heap.size #[.slice none 0 0, .int .i64 0] 27 := hM.frm.blk (Blk.new (w.drewN q) _ 27) id
    have hP2 := hM.blk
    have c2 : w2.cell? ⟨P, 2, none⟩ = some (.int .i64 0) := hP2.cell 2
    have c31 : w2.cell? ⟨P, 31, none⟩ = some (.bool false) := hP2.cell 31
    have c18 : w2.cell? ⟨P, 18, none⟩ = some (.bool false) := hP2.cell 18
    have f2 := hP2.frozen 2
    have f31 := hP2.frozen 31
    have f18 := hP2.frozen 18
    go_upto_block 0 with fail
    go_name_world W hW
    have hfPW : Frm (fun k => k = P) w2 W := hW ▸ (((Frm.refl (fun k => k = P) w2).setCell ⟨P, 2, none⟩ _ (fun _ => rfl)).setCell ⟨P, 31, none⟩ _ (fun _ => rfl)).setCell ⟨P, 18, none⟩ _ (fun _ => rfl)
    have hPW : Blk W P ((((totCells me n w.heap.size f).setIfInBounds 2 (.int .i64 me)).setIfInBounds 31 (.bool tk)).setIfInBounds 18 (.bool inp)) 48 := hW ▸ ((hP2.same 2 _).same 31 _).same 18 _
    clear hW c2 c31 c18 f2 f31 f18
    obtain ⟨G, hGdef⟩ : ∃ G, G = f 3 := ⟨_, rfl⟩
    obtain ⟨U, hUdef⟩ : ∃ G, G = f 7 := ⟨_, rfl⟩
    obtain ⟨N, hNdef⟩ : ∃ G, G = f 13 := ⟨_, rfl⟩
    obtain ⟨H, hHdef⟩ : ∃ G, G = f 15 := ⟨_, rfl⟩
    obtain ⟨R, hRdef⟩ : ∃ G, G = f 17 := ⟨_, rfl⟩
    have hlow : w.heap.size + 1 ≤ P := by
      have := hM.low
      simp at this
      exact this
    have hLie : Lie w w.heap.size P G R U H N := by
      have o3 := hM.obj 3 _ (by omega) rfl
      have o7 := hM.obj 7 _ (by omega) rfl
      have o13 := hM.obj 13 _ (by omega) rfl
      have o15 := hM.obj 15 _ (by omega) rfl
      have o17 := hM.obj 17 _ (by omega) rfl
      have hw1 : ((w.drewN q).alloc (Obj.cells #[.slice none 0 0, .int .i64 0] 27)).heap.size = w.heap.size + 1 := by simp
      have l3 := o3.2.1
      have l7 := o7.2.1
      have l13 := o13.2.1
      have l15 := o15.2.1
      have l17 := o17.2.1
      have hnn : ∀ i j, i < 21 → j < 21 → (objAt n i).isSome = true → (objAt n j).isSome = true → i ≠ j → f i ≠ f j := fun i j h1 h2 h3 h4 h5 h6 => h5 (hM.inj i j h1 h2 h3 h4 h6)
      simp at l3 l7 l13 l15 l17
      exact ⟨rfl, by rw [hGdef]; exact ⟨l3, o3.2.2⟩, by rw [hRdef]; exact ⟨l17, o17.2.2⟩, by rw [hUdef]; exact ⟨l7, o7.2.2⟩, by rw [hHdef]; exact ⟨l15, o15.2.2⟩, by rw [hNdef]; exact ⟨l13, o13.2.2⟩,
        by rw [hGdef, hRdef]; exact hnn _ _ (by omega) (by omega) rfl rfl (by decide), by rw [hGdef, hUdef]; exact hnn _ _ (by omega) (by omega) rfl rfl (by decide), by rw [hGdef, hHdef]; exact hnn _ _ (by omega) (by omega) rfl rfl (by decide), by rw [hGdef, hNdef]; exact hnn _ _ (by omega) (by omega) rfl rfl (by decide),
        by rw [hRdef, hUdef]; exact hnn _ _ (by omega) (by omega) rfl rfl (by decide), by rw [hRdef, hHdef]; exact hnn _ _ (by omega) (by omega) rfl rfl (by decide), by rw [hRdef, hNdef]; exact hnn _ _ (by omega) (by omega) rfl rfl (by decide),
        by rw [hUdef, hHdef]; exact hnn _ _ (by omega) (by omega) rfl rfl (by decide), by rw [hUdef, hNdef]; exact hnn _ _ (by omega) (by omega) rfl rfl (by decide), by rw [hHdef, hNdef]; exact hnn _ _ (by omega) (by omega) rfl rfl (by decide)⟩
    have hGW : Blk W G (madeCells #[.bool false] n) 4 := hGdef ▸ hfPW.blk (hM.obj 3 _ (by omega) rfl).1 (by have := hLie.gP; omega)
    have hUW : Blk W U (madeCells #[.bool false] n) 4 := hUdef ▸ hfPW.blk (hM.obj 7 _ (by omega) rfl).1 (by have := hLie.uP; omega)
    have hNW : Blk W N (madeCells #[.bool false] n) 4 := hNdef ▸ hfPW.blk (hM.obj 13 _ (by omega) rfl).1 (by have := hLie.nP; omega)
    have hHW : Blk W H (madeCells #[.int .u64 0] n) 33 := hHdef ▸ hfPW.blk (hM.obj 15 _ (by omega) rfl).1 (by have := hLie.hP; omega)
    have hRW : Blk W R (madeCells #[.bool false, .int .u64 0, .int .i64 0] (n * 3)) 50 := hRdef ▸ hfPW.blk (hM.obj 17 _ (by omega) rfl).1 (by have := hLie.rP; omega)
    have hEW := hfPW.blk hE2 (by omega)
    have hfW : Frm (fun k => w.heap.size ≤ k) w W := (hf2.mono (T := fun k => w.heap.size ≤ k) (fun _ _ h => h.elim)).trans hfPW (fun j hj h => by omega)
    obtain ⟨cs1, hcs1⟩ : ∃ cs1, cs1 = ((((totCells me n w.heap.size f).setIfInBounds 2 (.int .i64 me)).setIfInBounds 31 (.bool tk)).setIfInBounds 18 (.bool inp)) := ⟨_, rfl⟩
    rw [← hcs1] at hPW
    have t0 : cs1[0]? = some (.iface 24 (.pointer (some ⟨w.heap.size, 0, none⟩))) := by rw [hcs1]; rfl
    have t1 : cs1[1]? = some (.int .i64 me) := by rw [hcs1]; rfl
    have t2 : cs1[2]? = some (.int .i64 me) := by rw [hcs1]; rfl
    have t3 : cs1[3]? = some (.slice (some ⟨G, 0, none⟩) n n) := by rw [hcs1, hGdef]; rfl
    have t5 : cs1[5]? = some (.slice (some ⟨U, 0, none⟩) n n) := by rw [hcs1, hUdef]; rfl
    have t6 : cs1[6]? = some (.int .u64 0) := by rw [hcs1]; rfl
    have t16 : cs1[16]? = some (.slice none 0 0) := by rw [hcs1]; rfl
    have t18 : cs1[18]? = some (.bool inp) := by rw [hcs1]; rfl
    have t26 : cs1[26]? = some (.slice none 0 0) := by rw [hcs1]; rfl
    have t29 : cs1[29]? = some (.slice (some ⟨N, 0, none⟩) n n) := by rw [hcs1, hNdef]; rfl
    have t30 : cs1[30]? = some (.slice (some ⟨H, 0, none⟩) n n) := by rw [hcs1, hHdef]; rfl
    have t31 : cs1[31]? = some (.bool tk) := by rw [hcs1]; rfl
    have t33 : cs1[33]? = some (.slice (some ⟨R, 0, none⟩) n n) := by rw [hcs1, hRdef]; rfl
    have s36 : 36 ≤ cs1.size := by rw [hcs1]; simp [totCells]
    have k9 : cs1[9]? = some (.int .u64 0) := by rw [hcs1]; rfl
    have k10 : cs1[10]? = some (.slice none 0 0) := by rw [hcs1]; rfl
    have k11 : cs1[11]? = some (.int .i64 0) := by rw [hcs1]; rfl
    have k12 : cs1[12]? = some (.slice none 0 0) := by rw [hcs1]; rfl
    have k13 : cs1[13]? = some (.slice none 0 0) := by rw [hcs1]; rfl
    have k14 : cs1[14]? = some (.int .i64 0) := by rw [hcs1]; rfl
    clear hcs1 hGdef hUdef hNdef hHdef hRdef hM hP2 hE2 hf2
    go_cut [19, 20, 21] (fun _ _ _ wx => Grp wx G R U n (goneOf lg ga) (repOf me n lr ra) ∧ Frm (fun j => j = G ∨ j = R ∨ W.heap.size ≤ j) W wx)
    case first =>
      have hgP := hLie.gP
      have hrP := hLie.rP
      have huP := hLie.uP
      have hgr := hLie.gr
      have hgu := hLie.gu
      have hru := hLie.ru
      have hGw := hGW.lt
      have hRw := hRW.lt
      have hPw := hPW.lt
      have hUw := hUW.lt
      have hlg' : (lg : Int) ≤ 140737488355328 := by omega
      have hlr' : (lr : Int) ≤ 140737488355328 := by omega
      clear hEW hNW hHW t0 t1 t2 t5 t6 t16 t18 t26 t29 t30 t31 s36 k9 k10 k11 k12 k13 k14 hfPW hA hfit hv' hp
      go_wp2_with fail
      go_loopw [19] (fun i wr => ∃ (k : Nat) (cG cR : Array Value), k ≤ n ∧ i = .int .i64 k ∧ Blk wr G cG 4 ∧ Blk wr R cR 50 ∧ GoneCells n cG (upTo k (goneOf lg ga) false) ∧ RepCells n cR (upTo k (repOf me n lr ra) ⟨false, 0, 0⟩) ∧ Frm (fun j => j = G ∨ j = R ∨ W.heap.size ≤ j) W wr) (fun i _ => n - (intOf i).toNat)
      case atStart => exact ⟨0, _, _, Nat.zero_le _, rfl, hGW, hRW, ⟨by rw [size_madeCells], fun i hi => made1 _ _ _ hi⟩, ⟨by rw [size_madeCells], fun i hi => made3 _ _ _ _ _ hi⟩, Frm.refl _ _⟩
      case round =>
        obtain ⟨k, cG, cR, hk, rfl, hG1, hR1, hcG, hcR, hf1⟩ := hrel
        by_cases hlt : k < n
        · have hlt' : (k : Int) < n := by omega
          have hk0 : (0 : Int) ≤ k := by omega
          go_upto_if 70 with fail
          go_cut [19] (fun s19 wx => s19 = .int .i64 k ∧ ∃ cG', Blk wx G cG' 4 ∧ GoneCells n cG' (upTo (k + 1) (goneOf lg ga) false) ∧ Frm (fun j => j = G) wr wx)
          case first =>
            by_cases hkg : k < lg
            · obtain ⟨gb, go, rfl, hgb, hgc⟩ := hpg (by omega)
              have hkg' : (k : Int) < lg := by omega
              have hPr := hf1.blk hPW (by omega)
              have c3 := (hPr.cell 3).trans t3
              have x0 : wr.cell? ⟨gb, go + k, none⟩ = some (.bool (ga k)) := ((hf1.cell (a := ⟨gb, go + k, none⟩) (by have := hfW.size; show gb < W.heap.size; omega) (by show ¬ (gb = G ∨ gb = R ∨ W.heap.size ≤ gb); have := hfW.size; omega)).trans (hfW.cell (a := ⟨gb, go + k, none⟩) hgb (by show ¬ w.heap.size ≤ gb; omega))).trans (hgc k hkg)
              have cGk := (hG1.cell k).trans (hcG.at_ k hlt)
              have fGk := hG1.frozen k
              have hdone : Hid (∃ cG', Blk (wr.setCell ⟨G, k, none⟩ (.bool (ga k))).drew G cG' 4 ∧ GoneCells n cG' (upTo (k + 1) (goneOf lg ga) false) ∧ Frm (fun j => j = G) wr (wr.setCell ⟨G, k, none⟩ (.bool (ga k))).drew) := by
                refine ⟨cG.setIfInBounds k (.bool (ga k)), by exact hG1.same k _, ?_, ((Frm.refl (fun j => j = G) wr).setCell ⟨G, k, none⟩ _ (fun _ => rfl)).drew⟩
                have := hcG.put hlt
                rw [show goneOf lg ga k = ga k from if_pos hkg] at this
                exact this
              clear hG1 hR1 hcG hcR hf1 hPr hgc hpg hpr hGW hRW hUW hPW
              go_wp2_with fail
              go_region
              all_goals
                go_wp2_with fail
                go_meet
                exact ⟨rfl, hdone.out⟩
            · have hkg' : ¬ (k : Int) < lg := by omega
              have hdone : Hid (∃ cG', Blk wr G cG' 4 ∧ GoneCells n cG' (upTo (k + 1) (goneOf lg ga) false) ∧ Frm (fun j => j = G) wr wr) := ⟨cG, hG1, hcG.skip (if_neg hkg), Frm.refl _ _⟩
              clear hG1 hR1 hcG hcR hf1 hpg hpr hGW hRW hUW hPW
              go_wp2_with fail
              go_meet
              exact ⟨rfl, hdone.out⟩
          case rest =>
            obtain ⟨rfl, cG2, hG2, hcG2, f2⟩ := hcut
            obtain ⟨w3, rfl⟩ : ∃ x, x = wc := ⟨wc, rfl⟩
            have hR2 := f2.blk hR1 (fun e => hgr e.symm)
            have hf2 : Frm (fun j => j = G ∨ j = R ∨ W.heap.size ≤ j) W w3 := hf1.trans f2 (fun _ _ h => .inl h)
            clear hG1 hR1 hcG hf1 f2
            have endW : ∀ (wc : World) (cR' : Array Value), Blk wc R cR' 50 → RepCells n cR' (upTo (k + 1) (repOf me n lr ra) ⟨false, 0, 0⟩) → Frm (fun j => j = R) w3 wc → Hid (∃ (k' : Nat) (cG cR : Array Value), k' ≤ n ∧ Value.int IntKind.i64 ((k : Int) + 1) = .int .i64 k' ∧ Blk wc G cG 4 ∧ Blk wc R cR 50 ∧ GoneCells n cG (upTo k' (goneOf lg ga) false) ∧ RepCells n cR (upTo k' (repOf me n lr ra) ⟨false, 0, 0⟩) ∧ Frm (fun j => j = G ∨ j = R ∨ W.heap.size ≤ j) W wc) :=
              fun wc cR' h1 h2 h3 => ⟨k + 1, cG2, cR', hlt, rfl, h3.blk hG2 hgr, h1, hcG2, h2, hf2.trans h3 (fun _ _ h => .inr (.inl h))⟩
            by_cases hkr : k < lr
            · obtain ⟨rb, ro, rfl, hrb, hrc⟩ := hpr (by omega)
              have hkr' : (k : Int) < lr := by omega
              have hcell : ∀ j, w3.cell? ⟨rb, j, none⟩ = w.cell? ⟨rb, j, none⟩ := fun j => (hf2.cell (a := ⟨rb, j, none⟩) (by have := hfW.size; show rb < W.heap.size; omega) (by show ¬ (rb = G ∨ rb = R ∨ W.heap.size ≤ rb); have := hfW.size; omega)).trans (hfW.cell (a := ⟨rb, j, none⟩) hrb (by show ¬ w.heap.size ≤ rb; omega))
              obtain ⟨x0, x1, x2, x3⟩ := hrc k hkr
              rw [← hcell] at x0 x1 x2 x3
              obtain ⟨q1, q2⟩ := hra k hkr
              have hrk : repOf me n lr ra k = ⟨(ra k).md, (ra k).pl, if (ra k).ot then (ra k).ld % n else me⟩ := if_pos hkr
              generalize ra k = rk at x0 x1 x2 x3 q1 q2 hrk
              obtain ⟨md, ot, ld, pl⟩ := rk
              simp only at x0 x1 x2 x3 q1 q2 hrk
              have q1' : (ld : Int) < 256 := by omega
              have q2' : (pl : Int) < 256 := by omega
              have u1 : IntKind.i64.wrap (ld : Int) = ld := by rw [IntKind.wrap_i64]; omega
              have u2 : IntKind.u64.wrap (pl : Int) = pl := u64_wrap (by omega)
              clear hcell hrc hpg hpr
              go_upto_region 17 with fail
              go_name_world W4 hW4
              have f4 : Frm (fun j => j = R) w3 W4 := hW4 ▸ (Frm.refl (fun j => j = R) w3).alloc _
              have bX : Blk W4 w3.heap.size #[.bool md, .bool ot, .int .u8 ld, .int .u8 pl] 60 := hW4 ▸ Blk.new w3 _ 60
              have hP4 : Blk W4 P cs1 48 := hW4 ▸ ((Frm.refl (fun _ => False) w3).alloc _).blk (hf2.blk hPW (by omega)) id
              have hR4 : Blk W4 R cR 50 := hW4 ▸ ((Frm.refl (fun _ => False) w3).alloc _).blk hR2 id
              clear hW4 x0 x1 x2 x3
              have x0 := (bX.cell 0).trans (show _ = some (.bool md) from rfl)
              have x1 := (bX.cell 1).trans (show _ = some (.bool ot) from rfl)
              have x2 := (bX.cell 2).trans (show _ = some (.int .u8 ld) from rfl)
              have x3 := (bX.cell 3).trans (show _ = some (.int .u8 pl) from rfl)
              have c33 := (hP4.cell 33).trans t33
              obtain ⟨r0, r1, r2⟩ := hcR.at_ k hlt
              have m0 := (hR4.cell (k * 3)).trans r0
              have m1 := (hR4.cell (k * 3 + 1)).trans r1
              have m2 := (hR4.cell (k * 3 + 2)).trans r2
              have fm0 := hR4.frozen (k * 3)
              have fm1 := hR4.frozen (k * 3 + 1)
              have fm2 := hR4.frozen (k * 3 + 2)
              have hdone : Hid (∀ x : Int, x = ((if ot then ld % n else me : Nat) : Int) → ∃ (k' : Nat) (cG cR : Array Value), k' ≤ n ∧ Value.int IntKind.i64 ((k : Int) + 1) = .int .i64 k' ∧ Blk (((W4.setCell ⟨R, k * 3, none⟩ (.bool md)).setCell ⟨R, k * 3 + 1, none⟩ (.int .u64 pl)).setCell ⟨R, k * 3 + 2, none⟩ (.int .i64 x)).drew G cG 4 ∧ Blk (((W4.setCell ⟨R, k * 3, none⟩ (.bool md)).setCell ⟨R, k * 3 + 1, none⟩ (.int .u64 pl)).setCell ⟨R, k * 3 + 2, none⟩ (.int .i64 x)).drew R cR 50 ∧ GoneCells n cG (upTo k' (goneOf lg ga) false) ∧ RepCells n cR (upTo k' (repOf me n lr ra) ⟨false, 0, 0⟩) ∧ Frm (fun j => j = G ∨ j = R ∨ W.heap.size ≤ j) W (((W4.setCell ⟨R, k * 3, none⟩ (.bool md)).setCell ⟨R, k * 3 + 1, none⟩ (.int .u64 pl)).setCell ⟨R, k * 3 + 2, none⟩ (.int .i64 x)).drew) := fun x hx => by
                refine (endW _ (((cR.setIfInBounds (k * 3) (.bool md)).setIfInBounds (k * 3 + 1) (.int .u64 pl)).setIfInBounds (k * 3 + 2) (.int .i64 x)) (by exact ((hR4.same _ _).same _ _).same _ _) ?_ ((((f4.setCell ⟨R, k * 3, none⟩ _ (fun _ => rfl)).setCell ⟨R, k * 3 + 1, none⟩ _ (fun _ => rfl)).setCell ⟨R, k * 3 + 2, none⟩ _ (fun _ => rfl)).drew)).out
                have := hcR.put hlt
                rw [hrk, ← hx] at this
                exact this
              clear hG2 hR2 hcG2 hcR hf2 hGW hRW hUW hPW endW hP4 hR4 bX f4 r0 r1 r2 hrk hra
              cases ot
              · go_upto_region 20 with fail
                go_region
                all_goals
                  go_wp2_with fail
                  exact ⟨hdone.out me rfl, by simp [intOf]; omega⟩
              · go_upto_region 20 with fail
                go_region
                all_goals
                  go_wp2_with fail
                  exact ⟨hdone.out ((ld : Int) % n) rfl, by simp [intOf]; omega⟩
            · have hkr' : ¬ (k : Int) < lr := by omega
              have hdone := endW w3 cR hR2 (hcR.skip (if_neg hkr)) (Frm.refl _ _)
              clear hG2 hR2 hcG2 hcR hf2 hGW hRW hUW hPW endW hpg hpr hra
              go_wp2_with fail
              exact ⟨hdone.out, by simp [intOf]; omega⟩
        · have hlt' : ¬ (k : Int) < n := by omega
          obtain rfl : k = n := by omega
          have hend : Hid (Grp wr G R U k (goneOf lg ga) (repOf me k lr ra) ∧ Frm (fun j => j = G ∨ j = R ∨ W.heap.size ≤ j) W wr) := by
            have hUr := hf1.blk hUW (by omega)
            refine ⟨⟨fun i hi => ?_, fun i hi => ?_, fun i hi => ?_, fun i hi => ?_, fun i hi => ?_, hG1.lt, hR1.lt, hUr.lt⟩, hf1⟩
            · rw [hG1.cell, hcG.at_ i hi, upTo, if_pos hi]
            · rw [hR1.cell, (hcR.at_ i hi).1, upTo, if_pos hi]
            · rw [hR1.cell, (hcR.at_ i hi).2.1, upTo, if_pos hi]
            · rw [hR1.cell, (hcR.at_ i hi).2.2, upTo, if_pos hi]
            · rw [hUr.cell, made1 _ _ _ hi]
          clear hG1 hR1 hcG hcR hf1 hpg hpr hGW hRW hUW hPW
          go_wp2_with fail
          go_meet
          exact hend.out
    case rest =>
      obtain ⟨hGr, hf3⟩ := hcut
      obtain ⟨w3, rfl⟩ : ∃ x, x = wc := ⟨wc, rfl⟩
      have hr : ∀ i, i < n → (repOf me n lr ra i).pl < 256 := fun i _ => by
        unfold repOf
        split
        · exact (hra i (by assumption)).2
        · show 0 < 256
          omega
      generalize goneOf lg ga = g at hGr
      generalize repOf me n lr ra = r at hGr hr
      have hgP := hLie.gP
      have hrP := hLie.rP
      have huP := hLie.uP
      have hhP := hLie.hP
      have hnP := hLie.nP
      have hgh := hLie.gh
      have hgn := hLie.gn
      have hrh := hLie.rh
      have hrn := hLie.rn
      have huh := hLie.uh
      have hun := hLie.un
      have hPw := hPW.lt
      have hHN := hLie.hn
      have hP3 := hf3.blk hPW (by omega)
      have hH3 := hf3.blk hHW (by omega)
      have hN3 := hf3.blk hNW (by omega)
      have hE3 := hf3.blk hEW (by omega)
      have hfw3 : Frm (fun k => w.heap.size ≤ k) w w3 := hfW.trans hf3 (fun j hj h => by omega)
      have hA3 := hA.frm hfw3 (Nat.le_refl _) (fun k hk h => by omega)
      have hP3w := hP3.lt
      have hK0 := Kept.init hP3 (B := w3.heap.size) hP3.lt s36 k9 k10 k11 k12 k13 k14
      have hs1 : (madeCells #[Value.int .u64 0] n).size = n := size_madeCells _ _
      have hs2 : (madeCells #[Value.bool false] n).size = n := size_madeCells _ _
      have hHz : ∀ i, i < n → (madeCells #[Value.int .u64 0] n)[i]? = some (.int .u64 0) := fun i hi => made1 _ _ _ hi
      generalize madeCells #[Value.int .u64 0] n = csH at hH3 hs1 hHz
      generalize madeCells #[Value.bool false] n = csN at hN3 hs2
      clear hpg hpr hra hlg hlr hGW hRW hUW hPW hHW hNW hEW hfPW hf3 hfW k9 k10 k11 k12 k13 k14 hP3
      have hl3 : (es.length : Int) ≤ 1024 := by omega
      have hle : IntKind.u64.wrap (es.length : Int) = es.length := u64_wrap (by omega)
      go_wp2_with fail
      refine (fill_ok _ ab ao w.heap.size w3.heap.size P cs1 es w3 hv' hA3 (by omega) hK0 (Nat.le_refl _) t6 hl2 hfit).mono ?_
      rintro e w5 ⟨rfl, hFill⟩
      obtain ⟨cs5, va, vb, ve, made, arrs, ks, hK5, hks, hf5, hcs5, h65, hab5⟩ := hFill
      have hkl : ks.length = es.length := by rw [← hks, List.length_map]
      have hfitk : ∀ y ∈ ks, y.e.fr < 256 ∧ y.e.seq < 18446744073709551616 ∧ y.e.name.size + y.e.body.length ≤ 1048576 := fun y hy => hfit y.e (by rw [← hks]; exact List.mem_map_of_mem hy)
      have hcs5' : ∀ j, j ≠ 6 → j ≠ 10 → j ≠ 12 → j ≠ 13 → ∀ u, cs1[j]? = some u → cs5[j]? = some u := fun j h1 h2 h3 h4 u hu => (hcs5 j h1 h2 h3 h4).trans hu
      have hT : Tot cs5 w.heap.size me n G R U H N ks.length tk inp := ⟨hcs5' 0 (by decide) (by decide) (by decide) (by decide) _ t0, hcs5' 1 (by decide) (by decide) (by decide) (by decide) _ t1, hcs5' 2 (by decide) (by decide) (by decide) (by decide) _ t2, hcs5' 3 (by decide) (by decide) (by decide) (by decide) _ t3, hcs5' 5 (by decide) (by decide) (by decide) (by decide) _ t5, by rw [hkl]; exact h65, hcs5' 16 (by decide) (by decide) (by decide) (by decide) _ t16, hcs5' 18 (by decide) (by decide) (by decide) (by decide) _ t18, hcs5' 26 (by decide) (by decide) (by decide) (by decide) _ t26, hcs5' 29 (by decide) (by decide) (by decide) (by decide) _ t29, hcs5' 30 (by decide) (by decide) (by decide) (by decide) _ t30, hcs5' 31 (by decide) (by decide) (by decide) (by decide) _ t31, hcs5' 33 (by decide) (by decide) (by decide) (by decide) _ t33⟩
      have hGr3 := hGr.lt
      have hGr5 := hGr.frm hf5 (by omega) (by omega) (by omega)
      have hH5 := hf5.blk hH3 (by have := hH3.lt; omega)
      have hN5 := hf5.blk hN3 (by have := hN3.lt; omega)
      have hE5 := hf5.blk hE3 (by omega)
      have hA5 : Args w5 w.heap.size ab ao es := hA3.frm hf5 (by omega) (fun k hk h => by omega)
      have hHlt := hH3.lt
      have hNlt := hN3.lt
      have hfw5 : Frm (fun k => w.heap.size ≤ k) w w5 := hfw3.trans hf5 (fun j hj h => by omega)
      have hB5 := hf5.size
      clear hGr hH3 hN3 hE3 hA3 hA hK0 hf5 hfw3 hcs5 hcs5' h65 t0 t1 t2 t3 t5 t6 t16 t18 t26 t29 t30 t31 t33
      go_upto_block 2 with fail
      go_cut [23, 24, 25] (fun s23 _ _ wx => s23 = .bool (fine me es.length g r n) ∧ Frm (fun _ => False) w5 wx)
      case first =>
        go_wp2_with fail
        go_loopw [23, 24] (fun s23 i wr => ∃ k : Nat, k ≤ n ∧ i = .int .i64 k ∧ s23 = .bool (fine me es.length g r k) ∧ Frm (fun _ => False) w5 wr) (fun _ i _ => n - (intOf i).toNat)
        case atStart => exact ⟨0, Nat.zero_le _, rfl, rfl, Frm.refl _ _⟩
        case round =>
          obtain ⟨k, hk, rfl, rfl, hf1⟩ := hrel
          by_cases hlt : k < n
          · have hP1 := hf1.blk hK5.pb id
            have hG1 := hGr5.frm hf1 id id id
            have hlt' : (k : Int) < n := by omega
            have hk0 : (0 : Int) ≤ k := by omega
            have cg := hG1.gone k hlt
            have d0 := hG1.r0 k hlt
            have d1 := hG1.r1 k hlt
            have d2 := hG1.r2 k hlt
            have c3 := (hP1.cell 3).trans hT.c3
            have c33 := (hP1.cell 33).trans hT.c33
            have hfa : fineAt me es.length g r k = (k == me || g k || ((r k).md && (r k).ld == me && decide ((r k).pl ≤ es.length))) := rfl
            have hsucc := fine_succ me es.length g r k
            generalize (r k).md = md at d0 hfa
            generalize (r k).pl = pl at d1 hfa
            generalize (r k).ld = ld at d2 hfa
            generalize g k = gk at cg hfa
            generalize fineAt me es.length g r k = fa at hfa hsucc
            have next : Hid (∀ (fb : Bool) (w' : World), fb = (fine me es.length g r k && fa) → Frm (fun _ => False) wr w' → ∃ k' : Nat, k' ≤ n ∧ Value.int IntKind.i64 ((k : Int) + 1) = .int .i64 k' ∧ Value.bool fb = .bool (fine me es.length g r k') ∧ Frm (fun _ => False) w5 w') := fun fb w' h h2 => ⟨k + 1, hlt, rfl, by rw [h, hsucc], hf1.trans h2 (fun _ _ h => h)⟩
            have hfa' : Hid (fa = (k == me || gk || (md && ld == me && decide (pl ≤ es.length)))) := hfa
            clear hfa hsucc hP1 hG1 hK5 hT hGr5 hH5 hN5 hE5 hA5 hfw5 hf1 hfit hfitk hab5 hr hks
            generalize fine me es.length g r k = fk at next ⊢
            by_cases hme : k = me
            · subst hme
              go_wp2_with fail
              exact ⟨next.out fk _ (by rw [hfa'.out]; simp) (Frm.refl _ _), by simp [intOf]; omega⟩
            · have hme' : ¬ (k : Int) = me := by omega
              have hme2 : (k == me) = false := by simpa using hme
              have hnext2 : Hid (∀ fb : Bool, fb = (fk && (md && ld == me && decide (pl ≤ es.length))) → gk = false → ∃ k' : Nat, k' ≤ n ∧ Value.int IntKind.i64 ((k : Int) + 1) = .int .i64 k' ∧ Value.bool fb = .bool (fine me es.length g r k') ∧ Frm (fun _ => False) w5 (wr.alloc (.cells #[.bool md, .int .u64 pl, .int .i64 ld] 50))) := fun fb h hg => next.out fb _ (by rw [h, hfa'.out, hg, hme2]; simp) ((Frm.refl _ wr).alloc _)
              clear hme2
              cases gk
              · have x0 : (wr.alloc (.cells #[.bool md, .int .u64 pl, .int .i64 ld] 50)).cell? ⟨wr.heap.size, 0, none⟩ = some (.bool md) := (Blk.new wr #[.bool md, .int .u64 pl, .int .i64 ld] 50).cell 0
                have x1 : (wr.alloc (.cells #[.bool md, .int .u64 pl, .int .i64 ld] 50)).cell? ⟨wr.heap.size, 1, none⟩ = some (.int .u64 pl) := (Blk.new wr #[.bool md, .int .u64 pl, .int .i64 ld] 50).cell 1
                have x2 : (wr.alloc (.cells #[.bool md, .int .u64 pl, .int .i64 ld] 50)).cell? ⟨wr.heap.size, 2, none⟩ = some (.int .i64 ld) := (Blk.new wr #[.bool md, .int .u64 pl, .int .i64 ld] 50).cell 2
                cases md
                · go_wp2_with fail
                  exact ⟨hnext2.out false (by simp) rfl, by simp [intOf]; omega⟩
                · by_cases hld : ld = me
                  · subst hld
                    by_cases hpl : pl ≤ es.length
                    · have hpl' : ¬ (es.length : Int) < pl := by omega
                      go_wp2_with fail
                      exact ⟨hnext2.out fk (by simp [hpl]) rfl, by simp [intOf]; omega⟩
                    · have hpl' : (es.length : Int) < pl := by omega
                      go_wp2_with fail
                      exact ⟨hnext2.out false (by simp [hpl]) rfl, by simp [intOf]; omega⟩
                  · have hld' : ¬ (ld : Int) = me := by omega
                    go_wp2_with fail
                    exact ⟨hnext2.out false (by simp [hld]) rfl, by simp [intOf]; omega⟩
              · go_wp2_with fail
                exact ⟨next.out fk _ (by rw [hfa'.out]; simp) (Frm.refl _ _), by simp [intOf]; omega⟩
          · have hlt' : ¬ (k : Int) < n := by omega
            obtain rfl : k = n := by omega
            have hend : Hid (Frm (fun _ => False) w5 wr) := hf1
            clear hK5 hT hGr5 hH5 hN5 hE5 hA5 hfw5 hf1
            go_wp2_with fail
            go_meet
            exact ⟨rfl, hend.out⟩
      case rest =>
        obtain ⟨rfl, hf6⟩ := hcut
        obtain ⟨w6, rfl⟩ : ∃ x, x = wc := ⟨wc, rfl⟩
        have hK6 := hK5.frm hf6 id (fun _ _ _ => id)
        have hGr6 := hGr5.frm hf6 id id id
        have hH6 := hf6.blk hH5 id
        have hN6 := hf6.blk hN5 id
        have hE6 := hf6.blk hE5 id
        have hA6 : Args w6 w.heap.size ab ao es := hA5.frm hf6 (by have := hfw5.size; omega) (fun _ _ => id)
        have hfw6 : Frm (fun k => w.heap.size ≤ k) w w6 := hfw5.trans hf6 (fun _ _ h => h.elim)
        have hB6 : w3.heap.size ≤ w6.heap.size := Nat.le_trans hB5 hf6.size
        have hF6 : Frames w6 w3.heap.size (.slice none 0 0) [] := ⟨World.ownsRow_nil _ _ _ _, fun _ h => by cases h⟩
        clear hK5 hGr5 hH5 hN5 hE5 hA5 hfw5 hB5 hf6
        go_wp2_with fail
        refine (goOn_lead me n G R U H N g r tk inp w3.heap.size w.heap.size P cs5 csH csN va vb ve made arrs ks (.slice none 0 0) (.int .i64 0) [] w6 hK6 hT hGr6 hH6 hN6 hs1 hs2 (by omega) hr ⟨by omega, by omega, by omega, by omega, by omega⟩ ⟨by omega, by omega, by omega, by omega, by omega⟩ ⟨by omega, by omega, by omega⟩ ⟨hgh, hrh, huh⟩ ⟨hgn, hrn, hun⟩ hE6 (by omega) hF6 hB6 (by omega) (by simp) hab5 hfitk).mono ?_
        rintro e w7 ⟨rfl, hres⟩
        rw [hkl, hks] at hres
        rcases hres with ⟨hno, hf7⟩ | ⟨hyes, hTook⟩
        · have hP7 := hf7.blk hK6.pb id
          have hE7 := hf7.blk hE6 id
          have hH7 := hf7.blk hH6 id
          have x0 := (hE7.cell 0).trans (show _ = some (.slice none 0 0) from rfl)
          have x1 := (hE7.cell 1).trans (show _ = some (.int .i64 0) from rfl)
          have p6 := (hP7.cell 6).trans hT.c6
          rw [hkl] at p6
          have p9 := (hP7.cell 9).trans hK6.rel
          have p31 := (hP7.cell 31).trans hT.c31
          have p30 := (hP7.cell 30).trans hT.c30
          have hHk : ∀ k, k < n → w7.cell? ⟨H, k, none⟩ = some (.int .u64 0) := fun k hk => (hH7.cell k).trans (hHz k hk)
          have hfin : Hid (Frm (fun _ => False) w w7) := (hfw6.mono (fun j hj h => by omega)).trans hf7 (fun _ _ h => h)
          have hcond : tk = true → fine me es.length g r n = false := fun h => by
            rw [h] at hno
            simpa using hno
          clear hno hf7 hP7 hE7 hH7 hK6 hT hGr6 hH6 hN6 hE6 hA6 hfw6 hF6 hfit hfitk hr hab5 hks
          cases tk
          · clear hcond
            generalize fine me es.length g r n = fn
            go_wp2_with fail
            go_loopw [27] (fun i wr => ∃ k : Nat, k ≤ n ∧ i = .int .i64 k ∧ wr = w7) (fun i _ => n - (intOf i).toNat)
            case atStart => exact ⟨0, Nat.zero_le _, rfl, rfl⟩
            case round =>
              obtain ⟨k, hk, rfl, hwr⟩ := hrel
              subst hwr
              by_cases hlt : k < n
              · have hlt' : (k : Int) < n := by omega
                have hk0 : (0 : Int) ≤ k := by omega
                have cH := hHk k hlt
                clear hHk
                go_wp2_with fail
                exact ⟨⟨k + 1, hlt, rfl, by first | rfl | trivial⟩, by simp [intOf]; omega⟩
              · have hlt' : ¬ (k : Int) < n := by omega
                clear hHk
                go_wp2_with fail
                go_ret
                exact ⟨rfl, hfin.out⟩
          · rw [hcond rfl]
            clear hcond
            go_wp2_with fail
            go_loopw [27] (fun i wr => ∃ k : Nat, k ≤ n ∧ i = .int .i64 k ∧ wr = w7) (fun i _ => n - (intOf i).toNat)
            case atStart => exact ⟨0, Nat.zero_le _, rfl, rfl⟩
            case round =>
              obtain ⟨k, hk, rfl, hwr⟩ := hrel
              subst hwr
              by_cases hlt : k < n
              · have hlt' : (k : Int) < n := by omega
                have hk0 : (0 : Int) ≤ k := by omega
                have cH := hHk k hlt
                clear hHk
                go_wp2_with fail
                exact ⟨⟨k + 1, hlt, rfl, by first | rfl | trivial⟩, by simp [intOf]; omega⟩
              · have hlt' : ¬ (k : Int) < n := by omega
                clear hHk
                go_wp2_with fail
                go_ret
                exact ⟨rfl, hfin.out⟩
        · obtain ⟨rfl, hfn⟩ : tk = true ∧ fine me es.length g r n = true := by simpa using hyes
          rw [hfn]
          obtain ⟨cs7, sv7, M7, hP7, hcs7, h731, h79, hE7, hF7, hM7, hHc, hNc, hf7⟩ := hTook
          rw [List.nil_append] at hF7
          have hA7 : Args w7 w.heap.size ab ao es := hA6.frm hf7 (by have := hfw6.size; omega) (fun k hk h => by omega)
          have hGr7 := hGr6.frm hf7 (by omega) (by omega) (by omega)
          have hw7 : w.heap.size ≤ w7.heap.size := Nat.le_trans hfw6.size hf7.size
          have hfw7 : Frm (fun k => w.heap.size ≤ k) w w7 := hfw6.trans hf7 (fun j hj h => by omega)
          have q3 := (hcs7 3 (by omega) (by decide) (by decide) (by decide) (by decide) (by decide)).trans hT.c3
          have q6 := (hcs7 6 (by omega) (by decide) (by decide) (by decide) (by decide) (by decide)).trans hT.c6
          have q29 := (hcs7 29 (by omega) (by decide) (by decide) (by decide) (by decide) (by decide)).trans hT.c29
          have q30 := (hcs7 30 (by omega) (by decide) (by decide) (by decide) (by decide) (by decide)).trans hT.c30
          have q33 := (hcs7 33 (by omega) (by decide) (by decide) (by decide) (by decide) (by decide)).trans hT.c33
          rw [hkl] at q6
          clear hcs7 hT hyes hA6 hGr6 hfw6 hf7 hK6 hH6 hN6 hE6 hF6 hfitk hab5 hks hHz
          have x1 := (hE7.cell 1).trans (show _ = some (.int .i64 0) from rfl)
          have p6 := (hP7.cell 6).trans q6
          go_upto_block 6 with fail
          clear x1 p6
          go_cut [28, 29] (fun s28 _ wx => Fwd w7 w7.heap.size [] (passes me g r es n) s28 wx)
          case first =>
            go_wp2_with fail
            go_loopw [28, 29] (fun vs i wr => ∃ (k : Nat) (M : List Snt), k ≤ n ∧ i = .int .i64 k ∧ Frames wr w7.heap.size vs M ∧ M.map Snt.said = passes me g r es k ∧ M.length ≤ 1024 * k ∧ Frm (fun j => w7.heap.size ≤ j) w7 wr) (fun _ i _ => n - (intOf i).toNat)
            case atStart => exact ⟨0, [], Nat.zero_le _, rfl, ⟨World.ownsRow_nil _ _ _ _, fun _ h => by cases h⟩, rfl, Nat.le_refl _, Frm.refl _ _⟩
            case round =>
              obtain ⟨k, M, hk, rfl, hF, hM, hMl, hf⟩ := hrel
              by_cases hlt : k < n
              · have hlt' : (k : Int) < n := by omega
                have hk0 : (0 : Int) ≤ k := by omega
                have hP8 := hf.blk hP7 (by have := hP7.lt; omega)
                have hG8 := hGr7.frm hf (by have := hGr7.lt; omega) (by have := hGr7.lt; omega) (by have := hGr7.lt; omega)
                have hA8 := hA7.frm hf hw7 (fun k hk h => by omega)
                have cg := hG8.gone k hlt
                have d1 := hG8.r1 k hlt
                have c3 := (hP8.cell 3).trans q3
                have c33 := (hP8.cell 33).trans q33
                by_cases hgo : k ≠ me ∧ g k = false
                · obtain ⟨g1, g2⟩ := hgo
                  have g1' : ¬ (k : Int) = me := by omega
                  rw [g2] at cg
                  go_wp2_with (go_at_call 9; refine (forwards_ok k (r k).pl _ ab ao w.heap.size w7.heap.size es _ M _ hv' hA8 hw7 hf.size hF (by omega) (hr k hlt) hl2 hfit).mono ?_; rintro e w9 ⟨sv9, rfl, hF9⟩)
                  obtain ⟨M9, hF9, hM9, hf9⟩ := hF9
                  have hM9l : M9.length ≤ 1024 := by
                    have h := congrArg List.length hM9
                    rw [List.length_map, framesOf_length, List.length_drop] at h
                    omega
                  refine ⟨⟨k + 1, M ++ M9, hlt, by go_num, hF9, ?_, by rw [List.length_append]; omega, hf.trans hf9 (fun _ _ h => h)⟩, by simp [intOf]; omega⟩
                  rw [List.map_append, hM, hM9, passes_in g1 g2]
                · have hgo' : k = me ∨ g k = true := by
                    rcases Nat.decEq k me with h | h
                    · right
                      cases hb : g k with
                      | true => rfl
                      | false => exact absurd ⟨h, hb⟩ hgo
                    · exact .inl h
                  have hHid : Hid (∃ (k' : Nat) (M : List Snt), k' ≤ n ∧ Value.int IntKind.i64 ((k : Int) + 1) = .int .i64 k' ∧ Frames wr w7.heap.size u28 M ∧ M.map Snt.said = passes me g r es k' ∧ M.length ≤ 1024 * k' ∧ Frm (fun j => w7.heap.size ≤ j) w7 wr) :=
                    ⟨k + 1, M, hlt, rfl, hF, by rw [passes_out hgo']; exact hM, by omega, hf⟩
                  clear hF hM hf hG8 hA8 hP8 hP7 hGr7 hA7
                  by_cases hme : k = me
                  · subst hme
                    clear hgo' hgo
                    go_wp2_with fail
                    exact ⟨hHid.out, by simp [intOf]; omega⟩
                  · have hgk : g k = true := hgo'.resolve_left hme
                    have hme' : ¬ (k : Int) = me := by omega
                    rw [hgk] at cg
                    clear hgo' hgo
                    go_wp2_with fail
                    exact ⟨hHid.out, by simp [intOf]; omega⟩
              · have hlt' : ¬ (k : Int) < n := by omega
                have hend : Hid (Fwd w7 w7.heap.size [] (passes me g r es n) u28 wr) := ⟨M, hF, by rw [show n = k by omega]; exact hM, hf⟩
                clear hF hM hf hP7 hGr7 hA7
                go_wp2_with fail
                go_meet
                exact hend.out
          case rest =>
            obtain ⟨M8, hF8, hM8, hf8⟩ := hcut
            rw [List.nil_append] at hF8
            obtain ⟨w8, rfl⟩ : ∃ x, x = wc := ⟨wc, rfl⟩
            have hol : (others me g n).length ≤ n := by
              unfold others
              exact Nat.le_trans (List.length_filter_le _ _) (by simp)
            have hfl : ∀ k, k ≤ n → (passes me g r es k).length ≤ 1024 * k := fun k => by
              induction k with
              | zero => intro _; exact Nat.le_refl _
              | succ k ih =>
                intro hk
                by_cases hgo : k ≠ me ∧ g k = false
                · rw [passes_in hgo.1 hgo.2, List.length_append, framesOf_length, List.length_drop]
                  have := ih (by omega)
                  omega
                · have hgo' : k = me ∨ g k = true := by
                    rcases Nat.decEq k me with h | h
                    · right
                      cases hb : g k with
                      | true => rfl
                      | false => exact absurd ⟨h, hb⟩ hgo
                    · exact .inl h
                  rw [passes_out hgo']
                  have := ih (by omega)
                  omega
            have hM8l : M8.length ≤ 8192 := by
              have h := congrArg List.length hM8
              rw [List.length_map] at h
              have := hfl n (Nat.le_refl _)
              omega
            have hM7l : M7.length ≤ 8200 := by
              have h := congrArg List.length hM7
              rw [List.length_map, List.length_append, List.length_map] at h
              have := hfl n (Nat.le_refl _)
              omega
            have hP7l := hP7.lt
            have hG7l := hGr7.lt
            obtain ⟨u28v, hu28⟩ : ∃ x, x = u28 := ⟨u28, rfl⟩
            rw [← hu28]
            rw [← hu28] at hF8
            clear hu28 hfl hol
            go_upto_block 8 with fail
            go_cut [28, 30] (fun s28 _ wx => Fwd w7 w7.heap.size [] (passes me g r es n ++ ((others me g n).map fun i => (i, 21, es.length, []))) s28 wx)
            case first =>
              obtain ⟨j0, hj, hj0, hj1, hj2⟩ := info_parts info64
              go_wp2_with fail
              go_loopw [28, 30] (fun vs i wr => ∃ (k : Nat) (M : List Snt), k ≤ n ∧ i = .int .i64 k ∧ Frames wr w7.heap.size vs M ∧ M.map Snt.said = passes me g r es n ++ ((others me g k).map fun i => ((i, 21, es.length, []) : Said)) ∧ M.length ≤ 8192 + k ∧ Frm (fun j => w7.heap.size ≤ j) w7 wr) (fun _ i _ => n - (intOf i).toNat)
              case atStart => exact ⟨0, M8, Nat.zero_le _, rfl, hF8, by rw [hM8]; simp [others], by omega, hf8⟩
              case round =>
                clear hF8 hM8 hf8
                obtain ⟨k, M, hk, rfl, hF, hM, hMl, hf⟩ := hrel
                by_cases hlt : k < n
                · have hlt' : (k : Int) < n := by omega
                  have hk0 : (0 : Int) ≤ k := by omega
                  have hP8 := hf.blk hP7 (by omega)
                  have hG8 := hGr7.frm hf (by omega) (by omega) (by omega)
                  have cg := hG8.gone k hlt
                  have c3 := (hP8.cell 3).trans q3
                  by_cases hgo : k ≠ me ∧ g k = false
                  · obtain ⟨g1, g2⟩ := hgo
                    have g1' : ¬ (k : Int) = me := by omega
                    rw [g2] at cg
                    have hrow := hF.row
                    have hfsz := hf.size
                    obtain ⟨ps, cs, hps, _, _, _⟩ := owns_form hrow
                    rw [hps] at hrow
                    rw [hps]
                    go_wp2_with (at_builtin; refine wpList_append_src _ rfl _ _ 25 25 rfl w7.heap.size 64 j0 _ 4 48 Yba.underlying25 hj hj0 hj1 hj2 rfl _ _ _ rfl (hrow.alloc _) _ rfl 1 [.int .i64 k, .int .u8 21, .int .u64 es.length, .slice none 0 0] (src_four (t := 64) Yba.underlying25 (Blk.new _ _ 64) (by intro u hu; simp at hu; rcases hu with rfl | rfl | rfl | rfl <;> rfl)) (by omega) (by omega) (by simp; omega) ?_; intro v2 w2 own2 gw2 hat2)
                    have hfg := (((Frm.refl (fun k => w7.heap.size ≤ k) wr).alloc (Obj.cells #[.int .i64 k, .int .u8 21, .int .u64 es.length, .slice none 0 0] 64))).trans (Frm.grown gw2) (fun j _ h => (owns_lt hrow j h).1)
                    refine ⟨⟨k + 1, M ++ [⟨k, es.length, .slice none 0 0, [], 21⟩], hlt, by go_num, ⟨?_, fun x hx => ?_⟩, ?_, by rw [List.length_append, List.length_singleton]; omega, hf.trans hfg (fun _ _ h => h)⟩, by simp [intOf]; omega⟩
                    · rw [List.length_append, List.flatMap_append]
                      exact own2
                    · rcases List.mem_append.1 hx with hx | hx
                      · exact (Frm.grown gw2).owns ((hF.bytes x hx).alloc _) (fun k hk h => owns_apart (hF.bytes x hx) hrow (by decide) k hk h)
                      · obtain rfl : x = ⟨k, es.length, .slice none 0 0, [], 21⟩ := by simpa using hx
                        exact World.ownsRow_nil _ _ _ _
                    · rw [List.map_append, hM, others_in g1 g2, List.map_append, List.append_assoc]
                      rfl
                  · have hgo' : k = me ∨ g k = true := by
                      rcases Nat.decEq k me with h | h
                      · right
                        cases hb : g k with
                        | true => rfl
                        | false => exact absurd ⟨h, hb⟩ hgo
                      · exact .inl h
                    have hHid : Hid (∃ (k' : Nat) (M : List Snt), k' ≤ n ∧ Value.int IntKind.i64 ((k : Int) + 1) = .int .i64 k' ∧ Frames wr w7.heap.size u28 M ∧ M.map Snt.said = passes me g r es n ++ ((others me g k').map fun i => ((i, 21, es.length, []) : Said)) ∧ M.length ≤ 8192 + k' ∧ Frm (fun j => w7.heap.size ≤ j) w7 wr) :=
                      ⟨k + 1, M, hlt, rfl, hF, by rw [others_out hgo']; exact hM, by omega, hf⟩
                    clear hF hM hf hG8 hP8 hP7 hGr7 hA7
                    by_cases hme : k = me
                    · subst hme
                      clear hgo' hgo
                      go_wp2_with fail
                      exact ⟨hHid.out, by simp [intOf]; omega⟩
                    · have hgk : g k = true := hgo'.resolve_left hme
                      have hme' : ¬ (k : Int) = me := by omega
                      rw [hgk] at cg
                      clear hgo' hgo
                      go_wp2_with fail
                      exact ⟨hHid.out, by simp [intOf]; omega⟩
                · have hlt' : ¬ (k : Int) < n := by omega
                  have hend : Hid (Fwd w7 w7.heap.size [] (passes me g r es n ++ ((others me g n).map fun i => (i, 21, es.length, []))) u28 wr) := ⟨M, hF, by rw [hM, show n = k by omega], hf⟩
                  clear hF hM hf hP7 hGr7 hA7
                  go_wp2_with fail
                  go_meet
                  exact hend.out
            case rest =>
              clear hF8 hM8 hf8
              obtain ⟨M9, hF9, hM9, hf9⟩ := hcut
              rw [List.nil_append] at hF9
              obtain ⟨w9, rfl⟩ : ∃ x, x = wc := ⟨wc, rfl⟩
              have hE9 := hf9.blk hE7 (by have := hE7.lt; omega)
              have hP9 := hf9.blk hP7 (by omega)
              have hF79 := hF7.frm hf9 (fun k _ hk h => by omega)
              have hGr9 := hGr7.frm hf9 (by omega) (by omega) (by omega)
              have hHl : ∀ i, i < n → w9.cell? ⟨H, i, none⟩ = some (.int .u64 (r i).pl) := fun i hi => (hf9.cell (a := ⟨H, i, none⟩) (World.block_lt_of_cell? w7 ⟨H, i, none⟩ (hHc i hi)) (by have := World.block_lt_of_cell? w7 ⟨H, i, none⟩ (hHc i hi); show ¬ w7.heap.size ≤ H; simp at this; omega)).trans (hHc i hi)
              have hNl : ∀ i, i < n → w9.cell? ⟨N, i, none⟩ = some (.bool (g i || (i == me && inp))) := fun i hi => (hf9.cell (a := ⟨N, i, none⟩) (World.block_lt_of_cell? w7 ⟨N, i, none⟩ (hNc i hi)) (by have := World.block_lt_of_cell? w7 ⟨N, i, none⟩ (hNc i hi); show ¬ w7.heap.size ≤ N; simp at this; omega)).trans (hNc i hi)
              have hfin9 : Frm (fun _ => False) w w9 := (hfw7.trans hf9 (fun j hj h => by omega)).mono (fun j hj h => by omega)
              obtain ⟨p7', c7', hsv7, _, _, _⟩ := owns_form hF79.row
              rw [hsv7] at hF79 hE9
              have x0 := (hE9.cell 0).trans (show _ = some (Value.slice p7' M7.length c7') from rfl)
              have p31 := (hP9.cell 31).trans h731
              have p9 := (hP9.cell 9).trans h79
              clear hF7 hE7 hP7 hGr7 hHc hNc hf9 hfw7 hA7 hsv7
              go_upto_block 10 with (go_at_call 10; refine (same_ok _ _ _ _ M7 M9 _ hF79 hF9 (hM7.trans hM9.symm) (by omega)).mono ?_; rintro e w10 ⟨rfl, q10, rfl⟩)
              go_name_world W9 hW9
              have f910 : Frm (fun _ => False) w9 W9 := hW9 ▸ (Frm.refl _ w9).drewN q10
              clear hW9 x0 p31 p9 hF79 hF9 hM7 hM9 hE9
              go_wp2_with fail
              go_loopw [31] (fun i wr => ∃ k : Nat, k ≤ n ∧ i = .int .i64 k ∧ Frm (fun _ => False) w9 wr) (fun i _ => n - (intOf i).toNat)
              case atStart => exact ⟨0, Nat.zero_le _, rfl, f910⟩
              case round =>
                clear f910
                obtain ⟨k, hk, rfl, hf⟩ := hrel
                by_cases hlt : k < n
                · have hlt' : (k : Int) < n := by omega
                  have hk0 : (0 : Int) ≤ k := by omega
                  have hP10 := hf.blk hP9 id
                  have hG10 := hGr9.frm hf id id id
                  have cg := hG10.gone k hlt
                  have d1 := hG10.r1 k hlt
                  have c3 := (hP10.cell 3).trans q3
                  have c29 := (hP10.cell 29).trans q29
                  have c30 := (hP10.cell 30).trans q30
                  have c33 := (hP10.cell 33).trans q33
                  have cH : wr.cell? ⟨H, k, none⟩ = some (.int .u64 (r k).pl) := (hf.cell (a := ⟨H, k, none⟩) (World.block_lt_of_cell? w9 ⟨H, k, none⟩ (hHl k hlt)) id).trans (hHl k hlt)
                  have cN : wr.cell? ⟨N, k, none⟩ = some (.bool (g k || (k == me && inp))) := (hf.cell (a := ⟨N, k, none⟩) (World.block_lt_of_cell? w9 ⟨N, k, none⟩ (hNl k hlt)) id).trans (hNl k hlt)
                  have next : Hid (∀ q, ∃ k' : Nat, k' ≤ n ∧ Value.int IntKind.i64 ((k : Int) + 1) = .int .i64 k' ∧ Frm (fun _ => False) w9 (wr.drewN q)) := fun q => ⟨k + 1, hlt, rfl, hf.drewN q⟩
                  generalize (r k).pl = pl at d1 cH
                  clear hP10 hG10 hf hP9 hGr9 hHl hNl hr hfit hfin9
                  cases hgk : g k
                  · rw [hgk] at cg cN
                    by_cases hme : k = me
                    · subst hme
                      have e1 : (false || (k == k && inp)) = inp := by simp
                      rw [e1] at cN
                      cases inp
                      · go_upto_region 59 with fail
                        go_quiet (fail)
                        go_wp2_with fail
                        exact ⟨next.out _, by simp [intOf]; omega⟩
                      · go_upto_region 59 with fail
                        go_quiet (fail)
                        go_wp2_with fail
                        exact ⟨next.out _, by simp [intOf]; omega⟩
                    · have hme' : ((k : Int) == (me : Int)) = false := by simp; omega
                      have e1 : (false || (k == me && inp)) = false := by simp [hme]
                      rw [e1] at cN
                      go_upto_region 59 with fail
                      go_quiet (fail)
                      go_wp2_with fail
                      exact ⟨next.out _, by simp [intOf]; omega⟩
                  · rw [hgk] at cg cN
                    have e1 : (true || (k == me && inp)) = true := rfl
                    rw [e1] at cN
                    go_upto_region 59 with fail
                    go_quiet (fail)
                    go_wp2_with fail
                    exact ⟨next.out _, by simp [intOf]; omega⟩
                · have hlt' : ¬ (k : Int) < n := by omega
                  have hend : Hid (Frm (fun _ => False) w wr) := hfin9.trans hf (fun _ _ h => h)
                  clear hfin9 hf hP9 hGr9 hHl hNl
                  go_wp2_with fail
                  go_ret
                  exact ⟨rfl, hend.out⟩
  · have hok' : okAll es = false := by simpa using hok
    rw [hok']
    go_wp2_with fail
    go_ret
    exact ⟨rfl, (Frm.refl _ w).drewN q⟩
end Go.Proofs.Ybulkaryo
