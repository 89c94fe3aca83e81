/-
  total.takeOver.
-/
import Derived.Test.YbulkaryoSmall
import Derived.Test.YbulkaryoMember
namespace Go.Proofs.Ybulkaryo
open Go.RowKit

/-- A report. -/
structure Rep where
  md : Bool
  pl : Nat
  ld : Nat

/-- The group's memory: who is lost, the reports, the losses not told. -/
structure Grp (w : World) (G R U n : Nat) (g : Nat → Bool) (r : Nat → Rep) : Prop where
  gone : ∀ i, i < n → w.cell? ⟨G, i, none⟩ = some (.bool (g i))
  r0 : ∀ i, i < n → w.cell? ⟨R, i * 3, none⟩ = some (.bool (r i).md)
  r1 : ∀ i, i < n → w.cell? ⟨R, i * 3 + 1, none⟩ = some (.int .u64 (r i).pl)
  r2 : ∀ i, i < n → w.cell? ⟨R, i * 3 + 2, none⟩ = some (.int .i64 (r i).ld)
  unt : ∀ i, i < n → w.cell? ⟨U, i, none⟩ = some (.bool false)
  lt : G < w.heap.size ∧ R < w.heap.size ∧ U < w.heap.size
theorem Grp.frm {S : Nat → Prop} {w w' : World} {G R U n : Nat} {g : Nat → Bool} {r : Nat → Rep} (h : Grp w G R U n g r) (hf : Frm S w w') (hG : ¬ S G) (hR : ¬ S R) (hU : ¬ S U) : Grp w' G R U n g r where
  gone := fun i hi => (hf.cell (a := ⟨G, _, none⟩) h.lt.1 hG).trans (h.gone i hi)
  r0 := fun i hi => (hf.cell (a := ⟨R, _, none⟩) h.lt.2.1 hR).trans (h.r0 i hi)
  r1 := fun i hi => (hf.cell (a := ⟨R, _, none⟩) h.lt.2.1 hR).trans (h.r1 i hi)
  r2 := fun i hi => (hf.cell (a := ⟨R, _, none⟩) h.lt.2.1 hR).trans (h.r2 i hi)
  unt := fun i hi => (hf.cell (a := ⟨U, _, none⟩) h.lt.2.2 hU).trans (h.unt i hi)
  lt := ⟨Nat.lt_of_lt_of_le h.lt.1 hf.size, Nat.lt_of_lt_of_le h.lt.2.1 hf.size, Nat.lt_of_lt_of_le h.lt.2.2 hf.size⟩

/-- The cells of a total that the taking over reads. -/
structure Tot (cs : Array Value) (E me n G R U H N len : Nat) (tk inp : Bool) : Prop where
  c0 : cs[0]? = some (.iface 24 (.pointer (some ⟨E, 0, none⟩)))
  c1 : cs[1]? = some (.int .i64 me)
  c2 : cs[2]? = some (.int .i64 me)
  c3 : cs[3]? = some (.slice (some ⟨G, 0, none⟩) n n)
  c5 : cs[5]? = some (.slice (some ⟨U, 0, none⟩) n n)
  c6 : cs[6]? = some (.int .u64 len)
  c16 : cs[16]? = some (.slice none 0 0)
  c18 : cs[18]? = some (.bool inp)
  c26 : cs[26]? = some (.slice none 0 0)
  c29 : cs[29]? = some (.slice (some ⟨N, 0, none⟩) n n)
  c30 : cs[30]? = some (.slice (some ⟨H, 0, none⟩) n n)
  c31 : cs[31]? = some (.bool tk)
  c33 : cs[33]? = some (.slice (some ⟨R, 0, none⟩) n n)

/-- Does member i follow me, as far as is asked? -/
def fineAt (me len : Nat) (g : Nat → Bool) (r : Nat → Rep) (i : Nat) : Bool := i == me || g i || ((r i).md && (r i).ld == me && decide ((r i).pl ≤ len))
def fine (me len : Nat) (g : Nat → Bool) (r : Nat → Rep) (k : Nat) : Bool := (List.range k).all (fineAt me len g r)
theorem fine_succ (me len : Nat) (g : Nat → Bool) (r : Nat → Rep) (k : Nat) : fine me len g r (k + 1) = (fine me len g r k && fineAt me len g r k) := by
  unfold fine
  rw [List.range_succ, List.all_append]
  simp
theorem fine_not {me len : Nat} {g : Nat → Bool} {r : Nat → Rep} {k n : Nat} (hk : k < n) (h : fineAt me len g r k = false) : fine me len g r n = false := by
  unfold fine
  rw [List.all_eq_false]
  exact ⟨k, List.mem_range.2 hk, by simp [h]⟩

/-- What is passed on to the members below k. -/
def passes (me : Nat) (g : Nat → Bool) (r : Nat → Rep) (es : List Ent) (k : Nat) : List Said := (others me g k).flatMap fun i => framesOf i (r i).pl (es.drop (r i).pl)
theorem passes_in {me k : Nat} {g : Nat → Bool} {r : Nat → Rep} {es : List Ent} (h1 : k ≠ me) (h2 : g k = false) : passes me g r es (k + 1) = passes me g r es k ++ framesOf k (r k).pl (es.drop (r k).pl) := by
  unfold passes
  rw [others_in h1 h2, List.flatMap_append]
  simp
theorem passes_out {me k : Nat} {g : Nat → Bool} {r : Nat → Rep} {es : List Ent} (h : k = me ∨ g k = true) : passes me g r es (k + 1) = passes me g r es k := by
  unfold passes
  rw [others_out h]

/-- Behind the taking over. -/
structure Took (w : World) (B E P H N n me : Nat) (g : Nat → Bool) (r : Nat → Rep) (inp : Bool) (cs : Array Value) (es : List Ent) (z : Value) (L : List Snt) (w' : World) : Prop where
  ex : ∃ cs' sv' M, Blk w' P cs' 48 ∧ (∀ j, j < 9 ∨ 14 < j → j ≠ 16 → j ≠ 17 → j ≠ 19 → j ≠ 23 → j ≠ 31 → cs'[j]? = cs[j]?) ∧ cs'[31]? = some (.bool false) ∧ cs'[9]? = some (.int .u64 es.length) ∧
    Blk w' E #[sv', z] 27 ∧ Frames w' B sv' (L ++ M) ∧ M.map Snt.said = passes me g r es n ++ ((others me g n).map fun i => (i, 21, es.length, [])) ∧
    (∀ i, i < n → w'.cell? ⟨H, i, none⟩ = some (.int .u64 (r i).pl)) ∧ (∀ i, i < n → w'.cell? ⟨N, i, none⟩ = some (.bool (g i || (i == me && inp)))) ∧ Frm (fun k => k = E ∨ k = P ∨ k = H ∨ k = N ∨ B ≤ k) w w'

set_option maxRecDepth 100000 in
set_option maxHeartbeats 8000000 in
theorem takeOver_ok (me n G R U H N : Nat) (g : Nat → Bool) (r : Nat → Rep) (tk inp : Bool) (B E P : Nat) (cs csH csN : Array Value) (va vb ve : Value) (made : Bool) (arrs : List (Value × List UInt8)) (es : List Kep) (sv z : Value) (L : List Snt) (w : World)
    (hK : Kept w B P cs va vb ve made arrs es) (hT : Tot cs E me n G R U H N es.length tk inp) (hG : Grp w G R U n g r) (hH : Blk w H csH 33) (hN : Blk w N csN 4) (hHs : csH.size = n) (hNs : csN.size = n) (hn : n ≤ 8) (hr : ∀ i, i < n → (r i).pl < 256)
    (hGB : G < B ∧ R < B ∧ U < B ∧ H < B ∧ N < B) (hdE : G ≠ E ∧ R ≠ E ∧ U ≠ E ∧ H ≠ E ∧ N ≠ E) (hdP : G ≠ P ∧ R ≠ P ∧ U ≠ P) (hdH : G ≠ H ∧ R ≠ H ∧ U ≠ H) (hdN : G ≠ N ∧ R ≠ N ∧ U ≠ N)
    (hE : Blk w E #[sv, z] 27) (hEB : E < B) (hF : Frames w B sv L) (hB : B ≤ w.heap.size)
    (hes : es.length ≤ 1024) (hL : L.length ≤ 1000) (hbd : ∀ p ∈ arrs, p.2.length ≤ 1073741824) (hfit : ∀ y ∈ es, y.e.fr < 256 ∧ y.e.seq < 18446744073709551616 ∧ y.e.name.size + y.e.body.length ≤ 1048576) :
    Calls Yba.prog 13 #[.pointer (some ⟨P, 0, none⟩)] w fun en w' => en = .returned .nilIface ∧
      ((fine me es.length g r n = false ∧ Frm (fun _ => False) w w') ∨ (fine me es.length g r n = true ∧ Took w B E P H N n me g r inp cs (es.map (·.e)) z L w')) := by
  have hEP : E ≠ P := blk_ne hE hK.pb (by decide)
  have hlow := hK.low
  have hn' : (n : Int) ≤ 8 := by omega
  have c3 := (hK.pb.cell 3).trans hT.c3
  go_enter Yba.func13, Yba.ntmps13
  go_wp2_with fail
  go_loopw [19] (fun i wr => ∃ k : Nat, k ≤ n ∧ i = .int .i64 k ∧ fine me es.length g r k = true ∧ Frm (fun _ => False) w wr) (fun i _ => n - (intOf i).toNat)
  case atStart => exact ⟨0, Nat.zero_le _, rfl, rfl, Frm.refl _ _⟩
  case round =>
    obtain ⟨k, hk, rfl, hfk, hf1⟩ := hrel
    have hP1 := hf1.blk hK.pb id
    have hG1 := hG.frm hf1 id id id
    by_cases hlt : k < n
    · have hlt' : (k : Int) < n := by omega
      have hk0 : (0 : Int) ≤ k := by omega
      have cg := hG1.gone k hlt
      have d0 := hG1.r0 k hlt
      have d1 := hG1.r1 k hlt
      have d2 := hG1.r2 k hlt
      have c1 := (hP1.cell 1).trans hT.c1
      have c6 := (hP1.cell 6).trans hT.c6
      have c33 := (hP1.cell 33).trans hT.c33
      have hfa : fineAt me es.length g r k = (k == me || g k || ((r k).md && (r k).ld == me && decide ((r k).pl ≤ es.length))) := rfl
      have hnot : fineAt me es.length g r k = false → fine me es.length g r n = false := fun h => fine_not hlt h
      have hyes : fineAt me es.length g r k = true → fine me es.length g r (k + 1) = true := fun h => by rw [fine_succ, hfk, h]; rfl
      generalize (r k).md = md at d0 hfa
      generalize (r k).pl = pl at d1 hfa
      generalize (r k).ld = ld at d2 hfa
      generalize g k = gk at cg hfa
      generalize fineAt me es.length g r k = fa at hfa hnot hyes
      go_upto_region 5 with fail
      go_name_world W hW
      have hfW : Frm (fun _ => False) w W := hW ▸ hf1.alloc _
      have bX : Blk W wr.heap.size #[.bool md, .int .u64 pl, .int .i64 ld] 50 := hW ▸ Blk.new wr _ 50
      clear hW c1 c6 c33 d0 d1 d2 cg c3
      have hPW := hfW.blk hK.pb id
      have c1 := (hPW.cell 1).trans hT.c1
      have c6 := (hPW.cell 6).trans hT.c6
      have x0 := (bX.cell 0).trans (show _ = some (.bool md) from rfl)
      have x1 := (bX.cell 1).trans (show _ = some (.int .u64 pl) from rfl)
      have x2 := (bX.cell 2).trans (show _ = some (.int .i64 ld) from rfl)
      have next : Hid (fa = true → ∀ q, ∃ k' : Nat, k' ≤ n ∧ Value.int IntKind.i64 ((k : Int) + 1) = .int .i64 k' ∧ fine me es.length g r k' = true ∧ Frm (fun _ => False) w (W.drewN q)) := fun h q => ⟨k + 1, hlt, rfl, hyes h, hfW.drewN q⟩
      have stop : Hid (fa = false → ∀ q, fine me es.length g r n = false ∧ Frm (fun _ => False) w (W.drewN q)) := fun h q => ⟨hnot h, hfW.drewN q⟩
      clear hnot hyes hfk hK hT hG hG1 hP1 hPW bX hfW hf1 hF hE hH hN hfit hbd hr
      have hfa' : Hid (fa = (k == me || gk || (md && ld == me && decide (pl ≤ es.length)))) := hfa
      clear hfa
      by_cases hme : k = me
      · subst hme
        go_wp2_with fail
        exact ⟨next.out (by rw [hfa'.out]; simp) 0, by simp [intOf]; omega⟩
      · have hme' : ¬ (k : Int) = me := by omega
        cases gk
        · cases md
          · go_upto_region 6 with fail
            go_quiet (fail)
            go_wp2_with fail
            go_ret
            exact ⟨rfl, .inl (stop.out (by rw [hfa'.out]; simp [hme]) _)⟩
          · by_cases hld : ld = me
            · subst hld
              by_cases hpl : pl ≤ es.length
              · have hpl' : ¬ (es.length : Int) < pl := by omega
                go_upto_region 6 with fail
                go_quiet (fail)
                go_wp2_with fail
                exact ⟨next.out (by rw [hfa'.out]; simp [hpl]) _, by simp [intOf]; omega⟩
              · have hpl' : (es.length : Int) < pl := by omega
                go_upto_region 6 with fail
                go_quiet (fail)
                go_wp2_with fail
                go_ret
                exact ⟨rfl, .inl (stop.out (by rw [hfa'.out]; simp [hme, hpl]) _)⟩
            · have hld' : ¬ (ld : Int) = me := by omega
              go_upto_region 6 with fail
              go_quiet (fail)
              go_wp2_with fail
              go_ret
              exact ⟨rfl, .inl (stop.out (by rw [hfa'.out]; simp [hme, hld]) _)⟩
        · go_wp2_with fail
          exact ⟨next.out (by rw [hfa'.out]; simp) 0, by simp [intOf]; omega⟩
    · have hlt' : ¬ (k : Int) < n := by omega
      have hfn : fine me es.length g r n = true := (show k = n by omega) ▸ hfk
      obtain ⟨w1, rfl⟩ : ∃ x, x = wr := ⟨wr, rfl⟩
      have hK1 := hK.frm hf1 id (fun _ _ _ => id)
      have hE1 := hf1.blk hE id
      have hF1 := hF.frm hf1 (fun _ _ _ => id)
      have hH1 := hf1.blk hH id
      have hN1 := hf1.blk hN id
      have hB1 : B ≤ w1.heap.size := Nat.le_trans hB hf1.size
      have c3' := (hP1.cell 3).trans hT.c3
      clear hK hE hF hH hN hG c3 hP1 hfk
      go_wp2_with fail
      go_loopw [69] (fun i wx => ∃ (k : Nat) (M : List Snt) (sv' : Value), k ≤ n ∧ i = .int .i64 k ∧ Kept wx B P cs va vb ve made arrs es ∧ Blk wx E #[sv', z] 27 ∧ Frames wx B sv' (L ++ M) ∧ M.map Snt.said = passes me g r (es.map (·.e)) k ∧ M.length ≤ 1024 * k ∧ Frm (fun k => k = E ∨ B ≤ k) w1 wx) (fun i _ => n - (intOf i).toNat)
      case atStart => exact ⟨0, [], sv, Nat.zero_le _, rfl, hK1, hE1, by simpa using hF1, rfl, Nat.le_refl _, Frm.refl _ _⟩
      case round =>
        clear hlt hlt' hk
        obtain ⟨k, M, sv2, hk, rfl, hK2, hE2, hF2, hM, hMl, hf2⟩ := hrel
        have hG2 := hG1.frm hf2 (by omega) (by omega) (by omega)
        by_cases hlt : k < n
        · have hlt' : (k : Int) < n := by omega
          have hk0 : (0 : Int) ≤ k := by omega
          have cg := hG2.gone k hlt
          have d1 := hG2.r1 k hlt
          have c1 := (hK2.pb.cell 1).trans hT.c1
          have c33 := (hK2.pb.cell 33).trans hT.c33
          by_cases hgo : k ≠ me ∧ g k = false
          · obtain ⟨g1, g2⟩ := hgo
            have g1' : ¬ (k : Int) = me := by omega
            rw [g2] at cg
            have hlen : (L ++ M).length + es.length ≤ 1048576 := by
              rw [List.length_append]
              omega
            go_wp2_with (go_at_call 16; refine (pass_ok k (r k).pl B E P cs va vb ve made arrs es sv2 z (L ++ M) _ hK2 hT.c0 hT.c6 hE2 hEB hF2 (Nat.le_trans hB1 hf2.size) hes hlen hbd hfit (hr k hlt)).mono ?_; rintro e w3 ⟨rfl, sv3, M3, hK3, hE3, hF3, hM3, f3⟩)
            have hM3l : M3.length ≤ 1024 := by
              have h := congrArg List.length hM3
              rw [List.length_map, framesOf_length, List.length_drop, List.length_map] at h
              omega
            refine ⟨⟨k + 1, M ++ M3, sv3, hlt, by go_num, hK3, hE3, by rw [← List.append_assoc]; exact hF3, ?_, by rw [List.length_append]; omega, hf2.trans f3 (fun _ _ h => h)⟩, by simp [intOf]; omega⟩
            rw [List.map_append, hM, hM3, passes_in g1 g2]
          · have hgo' : k = me ∨ g k = true := by
              rcases Nat.decEq k me with h | h
              · right
                cases hb : g k with
                | true => rfl
                | false => exact absurd ⟨h, hb⟩ hgo
              · exact .inl h
            have hHid : Hid (∃ (k' : Nat) (M : List Snt) (sv' : Value), k' ≤ n ∧ Value.int IntKind.i64 ((k : Int) + 1) = .int .i64 k' ∧ Kept wr B P cs va vb ve made arrs es ∧ Blk wr E #[sv', z] 27 ∧ Frames wr B sv' (L ++ M) ∧ M.map Snt.said = passes me g r (es.map (·.e)) k' ∧ M.length ≤ 1024 * k' ∧ Frm (fun k => k = E ∨ B ≤ k) w1 wr) :=
              ⟨k + 1, M, sv2, hlt, rfl, hK2, hE2, hF2, by rw [passes_out hgo']; exact hM, by omega, hf2⟩
            by_cases hme : k = me
            · subst hme
              clear hgo' hgo
              go_wp2_with fail
              exact ⟨hHid.out, by simp [intOf]; omega⟩
            · have hgk : g k = true := hgo'.resolve_left hme
              have hme' : ¬ (k : Int) = me := by omega
              rw [hgk] at cg
              clear hgo' hgo
              go_wp2_with fail
              exact ⟨hHid.out, by simp [intOf]; omega⟩
        · have hlt' : ¬ (k : Int) < n := by omega
          obtain ⟨w2, rfl⟩ : ∃ x, x = wr := ⟨wr, rfl⟩
          have hMn : M.map Snt.said = passes me g r (es.map (·.e)) n := (show k = n by omega) ▸ hM
          have c5 := (hK2.pb.cell 5).trans hT.c5
          have hM8 : M.length ≤ 8192 := by omega
          clear hM hMl
          go_wp2_with fail
          go_loopw [101] (fun i wx => ∃ k : Nat, k ≤ n ∧ i = .int .i64 k ∧ wx = w2) (fun i _ => n - (intOf i).toNat)
          case atStart => exact ⟨0, Nat.zero_le _, rfl, rfl⟩
          case round =>
            clear hlt hlt' hk
            obtain ⟨k, hk, rfl, hwr⟩ := hrel
            subst hwr
            by_cases hlt : k < n
            · have hlt' : (k : Int) < n := by omega
              have hk0 : (0 : Int) ≤ k := by omega
              have cu := hG2.unt k hlt
              go_wp2_with fail
              exact ⟨⟨k + 1, hlt, rfl, by first | rfl | trivial⟩, by simp [intOf]; omega⟩
            · have hlt' : ¬ (k : Int) < n := by omega
              have c6 := (hK2.pb.cell 6).trans hT.c6
              have hL2 : (L ++ M).length ≤ 1000000 := by
                rw [List.length_append]
                omega
              have hB2 : B ≤ wr.heap.size := Nat.le_trans hB1 hf2.size
              go_wp2_with fail
              refine (sendOthers_ok es.length me n n G g B E P cs sv2 z (L ++ M) _ hK2.pb hT.c0 hT.c1 hT.c3 hG2.gone hn hE2 hEB hlow hGB.1 hdE.1 hF2 hB2 hL2).mono ?_
              rintro e w3 ⟨rfl, ⟨sv3, M3, hE3, hF3, hM3, f3⟩⟩
              have hP3 := f3.blk hK2.pb (by omega)
              have hG3 := hG2.frm f3 (by omega) (by omega) (by omega)
              have hfa : Frm (fun k => k = E ∨ B ≤ k) w w3 := ((hf1.mono (fun _ _ h => h.elim)).trans hf2 (fun _ _ h => h)).trans f3 (fun _ _ h => h)
              have hH3 := (hf2.trans f3 (fun _ _ h => h)).blk hH1 (by omega)
              have hN3 := (hf2.trans f3 (fun _ _ h => h)).blk hN1 (by omega)
              have hbig := hK2.big
              have q10 := hK2.c10
              have q9 := hK2.rel
              have q11 := hK2.hd
              have q12 := hK2.sp
              have q13 := hK2.c13
              have q14 := hK2.dr
              clear hK1 hK2 hE1 hE2 hF1 hF2 hH1 hN1 hG1 hG2 c3' c5 c6 hf1 hf2 f3 hbd hfit
              have c31 := (hP3.cell 31).trans hT.c31
              have f31 := hP3.frozen 31
              go_upto_region 30 with fail
              go_name_world W4 hW4
              have hP4 : Blk W4 P (cs.setIfInBounds 31 (.bool false)) 48 := hW4 ▸ hP3.same 31 _
              have f4 : Frm (fun k => k = P) w3 W4 := hW4 ▸ (Frm.refl (fun k => k = P) w3).setCell ⟨P, 31, none⟩ _ (fun _ => rfl)
              have hP3' := hP3
              clear hW4 c31 f31 hP3
              go_wp2_with fail
              refine (dropJoin_ok P _ _ hP4 (by simp; exact hbig)).mono ?_
              rintro e w5 ⟨rfl, ⟨cs5, hP5, hs5, hk5, h23, f5⟩⟩
              have hcs5 : ∀ j, j ≠ 31 → j ≠ 17 → j ≠ 19 → j ≠ 23 → cs5[j]? = cs[j]? := fun j h1 h2 h3 h4 => (hk5 j ⟨h2, h3, h4⟩).trans (Array.getElem?_setIfInBounds_ne (Ne.symm h1))
              have h31' : cs5[31]? = some (.bool false) := (hk5 31 ⟨by decide, by decide, by decide⟩).trans (Array.getElem?_setIfInBounds_self_of_lt (by omega))
              rw [Array.size_setIfInBounds] at hs5
              have c6 := (hP5.cell 6).trans ((hcs5 6 (by decide) (by decide) (by decide) (by decide)).trans hT.c6)
              have c9 := (hP5.cell 9).trans ((hcs5 9 (by decide) (by decide) (by decide) (by decide)).trans q9)
              have c10 := (hP5.cell 10).trans ((hcs5 10 (by decide) (by decide) (by decide) (by decide)).trans q10)
              have c11 := (hP5.cell 11).trans ((hcs5 11 (by decide) (by decide) (by decide) (by decide)).trans q11)
              have c12 := (hP5.cell 12).trans ((hcs5 12 (by decide) (by decide) (by decide) (by decide)).trans q12)
              have c13 := (hP5.cell 13).trans ((hcs5 13 (by decide) (by decide) (by decide) (by decide)).trans q13)
              have c14 := (hP5.cell 14).trans ((hcs5 14 (by decide) (by decide) (by decide) (by decide)).trans q14)
              have f9 := hP5.frozen 9
              have f10 := hP5.frozen 10
              have f11 := hP5.frozen 11
              have f12 := hP5.frozen 12
              have f13 := hP5.frozen 13
              have f14 := hP5.frozen 14
              go_upto_region 32 with fail
              go_name_world W6 hW6
              have hP6 : Blk W6 P ((((((cs5.setIfInBounds 9 (.int .u64 es.length)).setIfInBounds 10 (.slice none 0 0)).setIfInBounds 11 (.int .i64 0)).setIfInBounds 12 (.slice none 0 0)).setIfInBounds 13 (.slice none 0 0)).setIfInBounds 14 (.int .i64 0)) 48 := hW6 ▸ (((((hP5.same 9 _).same 10 _).same 11 _).same 12 _).same 13 _).same 14 _
              have f6 : Frm (fun k => k = P) w5 W6 := hW6 ▸ ((((((Frm.refl (fun k => k = P) w5).setCell ⟨P, 9, none⟩ _ (fun _ => rfl)).setCell ⟨P, 10, none⟩ _ (fun _ => rfl)).setCell ⟨P, 11, none⟩ _ (fun _ => rfl)).setCell ⟨P, 12, none⟩ _ (fun _ => rfl)).setCell ⟨P, 13, none⟩ _ (fun _ => rfl)).setCell ⟨P, 14, none⟩ _ (fun _ => rfl)
              clear hW6 c6 c9 c10 c11 c12 c13 c14 f9 f10 f11 f12 f13 f14 q9 q10 q11 q12 q13 q14
              obtain ⟨cs6, hcs6⟩ : ∃ cs6, cs6 = ((((((cs5.setIfInBounds 9 (.int .u64 es.length)).setIfInBounds 10 (.slice none 0 0)).setIfInBounds 11 (.int .i64 0)).setIfInBounds 12 (.slice none 0 0)).setIfInBounds 13 (.slice none 0 0)).setIfInBounds 14 (.int .i64 0)) := ⟨_, rfl⟩
              rw [← hcs6] at hP6
              have hs6 : cs6.size = cs.size := by
                rw [hcs6]
                simp only [Array.size_setIfInBounds]
                exact hs5
              have h69 : cs6[9]? = some (.int .u64 es.length) := by
                rw [hcs6, Array.getElem?_setIfInBounds_ne (by decide), Array.getElem?_setIfInBounds_ne (by decide), Array.getElem?_setIfInBounds_ne (by decide), Array.getElem?_setIfInBounds_ne (by decide), Array.getElem?_setIfInBounds_ne (by decide), Array.getElem?_setIfInBounds_self_of_lt (by omega)]
              have hk6 : ∀ j, j < 9 ∨ 14 < j → cs6[j]? = cs5[j]? := fun j hj => by
                rw [hcs6, Array.getElem?_setIfInBounds_ne (by omega), Array.getElem?_setIfInBounds_ne (by omega), Array.getElem?_setIfInBounds_ne (by omega), Array.getElem?_setIfInBounds_ne (by omega), Array.getElem?_setIfInBounds_ne (by omega), Array.getElem?_setIfInBounds_ne (by omega)]
              have hkk : ∀ j, j < 9 ∨ 14 < j → j ≠ 31 → j ≠ 17 → j ≠ 19 → j ≠ 23 → cs6[j]? = cs[j]? := fun j h0 h1 h2 h3 h4 => (hk6 j h0).trans (hcs5 j h1 h2 h3 h4)
              have h631 : cs6[31]? = some (.bool false) := (hk6 31 (by omega)).trans h31'
              have h623 : cs6[23]? = some (.pointer none) := (hk6 23 (by omega)).trans h23
              clear hcs6 hcs5 hk5 hk6 h31' h23 hP4 hP5
              have f36 : Frm (fun k => k = P) w3 W6 := (f4.trans f5 (fun _ _ h => h)).trans f6 (fun _ _ h => h)
              have hG6 := hG3.frm f36 hdP.1 hdP.2.1 hdP.2.2
              have hPHN : H ≠ P ∧ N ≠ P := ⟨(blk_ne hH3 hP3' (by decide)), (blk_ne hN3 hP3' (by decide))⟩
              have hE6 := f36.blk hE3 hEP
              have hF6 := hF3.frm f36 (fun k hk _ e => by omega)
              have hH6 := f36.blk hH3 hPHN.1
              have hN6 := f36.blk hN3 hPHN.2
              have hHN : H ≠ N := blk_ne hH6 hN6 (by decide)
              have hNH : N ≠ H := fun e => hHN e.symm
              have hPH : P ≠ H := fun e => hPHN.1 e.symm
              have hPN : P ≠ N := fun e => hPHN.2 e.symm
              clear hG3 hE3 hF3 hH3 hN3 f4 f5 f6
              have c29 := (hP6.cell 29).trans ((hkk 29 (by omega) (by decide) (by decide) (by decide) (by decide)).trans hT.c29)
              go_wp2_with fail
              go_loopw [168] (fun i wx => ∃ (k : Nat) (cH cN : Array Value), k ≤ n ∧ i = .int .i64 k ∧ Blk wx H cH 33 ∧ Blk wx N cN 4 ∧ cH.size = n ∧ cN.size = n ∧ (∀ i, i < k → cH[i]? = some (.int .u64 (r i).pl)) ∧ (∀ i, i < k → cN[i]? = some (.bool (g i || (i == me && inp)))) ∧ Frm (fun k => k = H ∨ k = N) W6 wx) (fun i _ => n - (intOf i).toNat)
              case atStart => exact ⟨0, csH, csN, Nat.zero_le _, rfl, hH6, hN6, hHs, hNs, fun i hi => by omega, fun i hi => by omega, Frm.refl _ _⟩
              case round =>
                clear hlt hlt' hk
                obtain ⟨k, cH, cN, hk, rfl, hH7, hN7, hHs7, hNs7, hcH, hcN, f7⟩ := hrel
                have hP7 := f7.blk hP6 (by omega)
                have hG7 := hG6.frm f7 (by omega) (by omega) (by omega)
                by_cases hlt : k < n
                · have hlt' : (k : Int) < n := by omega
                  have hk0 : (0 : Int) ≤ k := by omega
                  have c29 := (hP7.cell 29).trans ((hkk 29 (by omega) (by decide) (by decide) (by decide) (by decide)).trans hT.c29)
                  have c3 := (hP7.cell 3).trans ((hkk 3 (by omega) (by decide) (by decide) (by decide) (by decide)).trans hT.c3)
                  have c1 := (hP7.cell 1).trans ((hkk 1 (by omega) (by decide) (by decide) (by decide) (by decide)).trans hT.c1)
                  have c18 := (hP7.cell 18).trans ((hkk 18 (by omega) (by decide) (by decide) (by decide) (by decide)).trans hT.c18)
                  have cg := hG7.gone k hlt
                  obtain ⟨uN, huN⟩ : ∃ u, cN[k]? = some u := ⟨cN[k], by simp [hNs7, hlt]⟩
                  obtain ⟨uH, huH⟩ : ∃ u, cH[k]? = some u := ⟨cH[k], by simp [hHs7, hlt]⟩
                  have cN7 := (hN7.cell k).trans huN
                  have fN7 := hN7.frozen k
                  have step : Hid (∀ v : Bool, v = (g k || (k == me && inp)) → ∃ cN', Blk (wr.setCell ⟨N, k, none⟩ (.bool v)).drew N cN' 4 ∧ cN'.size = n ∧ (∀ i, i < k + 1 → cN'[i]? = some (.bool (g i || (i == me && inp)))) ∧ Frm (fun j => j = N) wr (wr.setCell ⟨N, k, none⟩ (.bool v)).drew) := fun v hv => by
                    refine ⟨cN.setIfInBounds k (.bool v), by exact hN7.same k _, by rw [Array.size_setIfInBounds]; exact hNs7, fun i hi => ?_, ((Frm.refl (fun j => j = N) wr).setCell ⟨N, k, none⟩ _ (fun _ => rfl)).drew⟩
                    by_cases hik : i = k
                    · subst hik
                      rw [Array.getElem?_setIfInBounds_self_of_lt (by omega), hv]
                    · rw [Array.getElem?_setIfInBounds_ne (Ne.symm hik)]
                      exact hcN i (by omega)
                  go_upto_region 35 with fail
                  go_cut [13] (fun s13 wx => s13 = .int .i64 k ∧ ∃ cN', Blk wx N cN' 4 ∧ cN'.size = n ∧ (∀ i, i < k + 1 → cN'[i]? = some (.bool (g i || (i == me && inp)))) ∧ Frm (fun j => j = N) wr wx)
                  case first =>
                    clear hG7 hG6 hcH hcN hP7 hN7 hH7 hE6 hF6 hH6 hN6 hM3 hMn hT hkk f7 hfa
                    cases hgk : g k
                    · rw [hgk] at cg
                      by_cases hme : k = me
                      · subst hme
                        go_region
                        all_goals
                          go_wp2_with fail
                          go_meet
                          exact ⟨rfl, step.out inp (by rw [hgk]; simp)⟩
                      · have hme' : ((k : Int) == (me : Int)) = false := by simp; omega
                        go_region
                        all_goals
                          go_wp2_with fail
                          go_meet
                          exact ⟨rfl, step.out false (by rw [hgk]; simp [hme])⟩
                    · rw [hgk] at cg
                      go_region
                      all_goals
                        go_wp2_with fail
                        go_meet
                        exact ⟨rfl, step.out true (by rw [hgk]; simp)⟩
                  case rest =>
                    obtain ⟨rfl, cN', hN8, hNs8, hcN8, f8⟩ := hcut
                    clear step c29 c3 c1 c18 cg cN7 fN7
                    have hP8 := f8.blk hP7 hPN
                    have hG8 := hG7.frm f8 hdN.1 hdN.2.1 hdN.2.2
                    have hH8 := f8.blk hH7 hHN
                    have c30 := (hP8.cell 30).trans ((hkk 30 (by omega) (by decide) (by decide) (by decide) (by decide)).trans hT.c30)
                    have c33 := (hP8.cell 33).trans ((hkk 33 (by omega) (by decide) (by decide) (by decide) (by decide)).trans hT.c33)
                    have d1 := hG8.r1 k hlt
                    have cH8 := (hH8.cell k).trans huH
                    have fH8 := hH8.frozen k
                    have hend : Hid (∃ (k' : Nat) (cH cN : Array Value), k' ≤ n ∧ Value.int IntKind.i64 ((k : Int) + 1) = .int .i64 k' ∧ Blk (wc.setCell ⟨H, k, none⟩ (.int .u64 (r k).pl)).drew H cH 33 ∧ Blk (wc.setCell ⟨H, k, none⟩ (.int .u64 (r k).pl)).drew N cN 4 ∧ cH.size = n ∧ cN.size = n ∧ (∀ i, i < k' → cH[i]? = some (.int .u64 (r i).pl)) ∧ (∀ i, i < k' → cN[i]? = some (.bool (g i || (i == me && inp)))) ∧ Frm (fun k => k = H ∨ k = N) W6 (wc.setCell ⟨H, k, none⟩ (.int .u64 (r k).pl)).drew) := by
                      have f9 : Frm (fun j => j = H) wc (wc.setCell ⟨H, k, none⟩ (.int .u64 (r k).pl)).drew := ((Frm.refl (fun j => j = H) wc).setCell ⟨H, k, none⟩ _ (fun _ => rfl)).drew
                      refine ⟨k + 1, cH.setIfInBounds k (.int .u64 (r k).pl), cN', hlt, rfl, by exact hH8.same k _, f9.blk hN8 hNH, by rw [Array.size_setIfInBounds]; exact hHs7, hNs8, fun i hi => ?_, hcN8, (f7.trans f8 (fun _ _ h => .inr h)).trans f9 (fun _ _ h => .inl h)⟩
                      by_cases hik : i = k
                      · subst hik
                        rw [Array.getElem?_setIfInBounds_self_of_lt (by omega)]
                      · rw [Array.getElem?_setIfInBounds_ne (Ne.symm hik)]
                        exact hcH i (by omega)
                    clear hG8 hG7 hG6 hcH hcN hcN8 hP7 hP8 hN7 hN8 hH7 hH8 hE6 hF6 hH6 hN6 hM3 hMn hT hkk f7 f8 hfa
                    go_upto_region 36 with fail
                    go_region
                    all_goals
                      go_wp2_with fail
                      exact ⟨hend.out, by simp [intOf]; omega⟩
                · have hlt' : ¬ (k : Int) < n := by omega
                  have hkn : k = n := by omega
                  rw [hkn] at hcH hcN
                  have hT16 := hkk 16 (by omega) (by decide) (by decide) (by decide) (by decide)
                  go_wp2_with fail
                  refine (relayHeld_ok P cs6 _ hP7 (by omega) (hT16.trans hT.c16)).mono ?_
                  rintro e w8 ⟨rfl, ⟨cs8, hP8, hs8, hk8, _, f8⟩⟩
                  go_wp2_with fail
                  refine (startJoin_ok P cs8 _ hP8 ((hk8 23 ⟨by decide, by decide⟩).trans h623) ((hk8 31 ⟨by decide, by decide⟩).trans h631) ((hk8 26 ⟨by decide, by decide⟩).trans ((hkk 26 (by omega) (by decide) (by decide) (by decide) (by decide)).trans hT.c26))).mono ?_
                  rintro e w9 ⟨rfl, q9, rfl⟩
                  go_wp2_with fail
                  go_ret
                  have f69 : Frm (fun k => k = H ∨ k = N ∨ k = P) W6 (w8.drewN q9) := ((f7.mono (fun _ _ h => orMap h id .inl)).trans f8 (fun _ _ h => .inr (.inr h))).drewN q9
                  have fw9 : Frm (fun k => k = E ∨ k = P ∨ k = H ∨ k = N ∨ B ≤ k) w (w8.drewN q9) := ((hfa.mono (fun _ _ h => by omega)).trans f36 (fun _ _ h => by omega)).trans f69 (fun _ _ h => by omega)
                  have hl : (es.map (·.e)).length = es.length := List.length_map _
                  refine ⟨rfl, .inr ⟨hfn, ⟨cs8, sv3, M ++ M3, hP8.drewN q9, fun j h0 h1 h2 h3 h4 h5 => (hk8 j ⟨h1, h2⟩).trans (hkk j h0 h5 h2 h3 h4), (hk8 31 ⟨by decide, by decide⟩).trans h631, by rw [hl]; exact (hk8 9 ⟨by decide, by decide⟩).trans h69, f69.blk hE6 (by omega), ?_, ?_, fun i hi => ?_, fun i hi => ?_, fw9⟩⟩⟩
                  · rw [← List.append_assoc]
                    exact hF6.frm f69 (fun k hk _ h => by omega)
                  · rw [List.map_append, hMn, hM3, hl]
                  · exact (((f8.drewN q9).blk hH7 hPHN.1).cell i).trans (hcH i hi)
                  · exact (((f8.drewN q9).blk hN7 hPHN.2).cell i).trans (hcN i hi)
end Go.Proofs.Ybulkaryo
