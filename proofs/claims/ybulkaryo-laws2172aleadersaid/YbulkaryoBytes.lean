/-
  THE BYTES OF AN ENTRY: encoding/binary.AppendUvarint; zzs2172aenc.
-/
import Derived.Test.YbulkaryoMem
namespace Go.Proofs.Ybulkaryo
open Go.RowKit

theorem info5 : (Yba.prog.info? 5).map (fun i => (i.zero, i.size, i.bytes)) = some (some (.int .u8 0), 1, 1) := by kernel_rfl

/-- From (v, w) to (v', w') a row of the call's own has been appended to: it lies where it lay or in new memory; else nothing turned. -/
def Grew (v : Value) (w : World) (v' : Value) (w' : World) : Prop :=
  Frm (fun k => v.ownBlock = some k) w w' ∧ (v'.ownBlock = v.ownBlock ∨ ∃ k, v'.ownBlock = some k ∧ w.heap.size ≤ k)
theorem Grew.refl (v : Value) (w : World) : Grew v w v w := ⟨Frm.refl _ _, .inl rfl⟩
theorem Grew.trans {v v1 v2 : Value} {w w1 w2 : World} (h : Grew v w v1 w1) (k : Grew v1 w1 v2 w2) : Grew v w v2 w2 := by
  refine ⟨h.1.trans k.1 fun j hj hT => ?_, ?_⟩
  · rcases h.2 with e | ⟨m, e, hm⟩
    · exact e ▸ hT
    · have : m = j := Option.some.inj (e.symm.trans hT)
      omega
  · rcases k.2 with e | ⟨m, e, hm⟩
    · rcases h.2 with e' | ⟨m, e', hm⟩
      · exact .inl (e.trans e')
      · exact .inr ⟨m, e.trans e', hm⟩
    · exact .inr ⟨m, e, Nat.le_trans h.1.size hm⟩
theorem Grew.alloc {v v1 : Value} {w w1 : World} (h : Grew v w v1 w1) (x : Obj) : Grew v w v1 (w1.alloc x) := ⟨h.1.alloc x, h.2⟩
theorem Grew.drew {v v1 : Value} {w w1 : World} (h : Grew v w v1 w1) : Grew v w v1 w1.drew := ⟨h.1.drew, h.2⟩
theorem Grew.append {v v' : Value} {w w' : World} (hg : w.grownBy w' v.ownBlock) (hat : v'.ownBlock = v.ownBlock ∨ v'.ownBlock = some w.heap.size) : Grew v w v' w' :=
  ⟨Frm.grown hg, orMap hat id fun e => ⟨_, e, Nat.le_refl _⟩⟩

set_option maxRecDepth 100000 in
set_option maxHeartbeats 1000000 in
theorem uvarint_ok (base x n : Nat) (sv : Value) (xs : List Value) (w : World) (hx : x < 18446744073709551616) (hown : w.ownsRow base 5 1 sv n xs) (hn : n ≤ 70368744177664) (hbase : base ≤ w.heap.size) :
    Calls Yba.prog 23 #[sv, .int .u64 x] w fun e w' => ∃ v', e = .returned v' ∧ w'.ownsRow base 5 1 v' (n + (Lib.uvarint x).length) (xs ++ Lib.byteCells (Lib.uvarint x)) ∧ Grew sv w v' w' := by
  obtain ⟨i0, hi, hz0, hz1, hz2⟩ := info_parts info5
  have hlen := Lib.uvarint_length64 hx
  go_enter Yba.func23, Yba.ntmps23
  go_wp2
  go_loopw [0, 1] (fun vb vx wr => ∃ (y : Nat) (pre : List UInt8), vx = .int .u64 y ∧ y ≤ x ∧ Lib.uvarint x = pre ++ Lib.uvarint y ∧ wr.ownsRow base 5 1 vb (n + pre.length) (xs ++ Lib.byteCells pre) ∧ Grew sv w vb wr)
    (fun _ vx _ => (intOf vx).toNat)
  case atStart => exact ⟨x, [], rfl, Nat.le_refl _, rfl, by simpa [Lib.byteCells] using hown, Grew.refl _ _⟩
  case round =>
    obtain ⟨y, pre, rfl, hy, hsplit, hown1, hgr⟩ := hrel
    have hpl : pre.length + (Lib.uvarint y).length ≤ 10 := by
      have h2 := congrArg List.length hsplit
      rw [List.length_append] at h2
      omega
    have hyp := Lib.uvarint_pos y
    have hb1 : base ≤ wr.heap.size := Nat.le_trans hbase hgr.1.size
    by_cases h128 : 128 ≤ y
    · have hor : bits .or .u8 ((y : Int) % 256) 128 = ((y % 128 + 128 : Nat) : Int) := by
        rw [Lib.u8_or128_any _ (by omega) (by omega)]
        omega
      go_wp2_with (at_builtin; refine wpList_append_src _ rfl _ _ 62 62 rfl base 5 i0 (.int .u8 0) 1 1 Yba.underlying62 hi hz0 hz1 hz2 rfl u0 _ _ rfl (hown1.alloc _) _ rfl 1 [Value.int .u8 ((y % 128 + 128 : Nat) : Int)] (Src.ofSlice _ Yba.underlying62 ⟨wr.heap.size, 0, none⟩ 1 1 _ rfl (cell_one_new _ _ _) (by intro u hu; simp at hu; subst hu; rfl)) (by omega) (by omega) (by simp; omega) ?_; intro v' w1 hown' hgrow hat)
      refine ⟨⟨y / 128, pre ++ [(y % 128 + 128).toUInt8], by go_num, by omega, by rw [hsplit, Lib.uvarint_big h128]; simp, ?_, (hgr.alloc _).trans (Grew.append hgrow hat)⟩, by simp [intOf]; omega⟩
      rw [Lib.byteCells_snoc pre (by omega), List.length_append, List.length_singleton, ← Nat.add_assoc, ← List.append_assoc]
      exact hown'
    · have hsm : Lib.uvarint y = [y.toUInt8] := Lib.uvarint_small (by omega)
      go_wp2_with (at_builtin; refine wpList_append_src _ rfl _ _ 62 62 rfl base 5 i0 (.int .u8 0) 1 1 Yba.underlying62 hi hz0 hz1 hz2 rfl u0 _ _ rfl (hown1.alloc _) _ rfl 1 [Value.int .u8 (y : Int)] (Src.ofSlice _ Yba.underlying62 ⟨wr.heap.size, 0, none⟩ 1 1 _ rfl (cell_one_new _ _ _) (by intro u hu; simp at hu; subst hu; rfl)) (by omega) (by omega) (by simp; omega) ?_; intro v' w1 hown' hgrow hat)
      go_ret
      refine ⟨v', rfl, ?_, (hgr.alloc _).trans (Grew.append hgrow hat)⟩
      rw [hsplit, hsm, Lib.byteCells_snoc pre (by omega), List.length_append, List.length_singleton, ← Nat.add_assoc, ← List.append_assoc]
      exact hown'

/-- What an entry is written as. -/
def encOf (fr seq : Nat) (name body : List UInt8) : List UInt8 :=
  Lib.uvarint fr ++ Lib.uvarint seq ++ (if name = [] then [] else Lib.uvarint name.length ++ name) ++ body

theorem bytes_isEmpty (s : ByteArray) : s.toList.isEmpty = decide (s.data.toList = []) := by
  have h : s.toList = s.data.toList := ByteArray.toList_eq s
  rw [h]
  cases s.data.toList <;> simp
theorem size_list (s : ByteArray) : s.size = s.data.toList.length := by rw [Array.length_toList]; rfl
/-- A row under a lower base. -/
theorem owns_base {w : World} {b c : Nat} {e : TypeId} {size n : Nat} {v : Value} {xs : List Value} (h : w.ownsRow b e size v n xs) (hc : c ≤ b) : w.ownsRow c e size v n xs := by
  refine ⟨h.1, orMap h.2 id ?_⟩
  rintro ⟨g, cap, cur, rfl, hb, hr⟩
  exact ⟨g, cap, cur, rfl, Nat.le_trans hc hb, hr⟩
theorem owns_cast {w : World} {b : Nat} {e : TypeId} {size n n' : Nat} {v : Value} {xs xs' : List Value} (h : w.ownsRow b e size v n xs) (hn : n = n') (hx : xs = xs') : w.ownsRow b e size v n' xs' := by
  subst hn hx
  exact h

theorem Src.str {w : World} (s : ByteArray) : Src Yba.prog 1 9 (.string s) s.size (Lib.byteCells s.data.toList) w := Src.ofString w Yba.underlying9 s

theorem grew_none {v' : Value} {w w' : World} (h : Grew (.slice none 0 0) w v' w') : Frm (fun _ => False) w w' :=
  h.1.mono fun j _ e => by cases e

set_option maxRecDepth 100000 in
set_option maxHeartbeats 1000000 in
theorem enc_ok (fr seq : Nat) (s : ByteArray) (bv : Value) (body : List UInt8) (w : World) (hfr : fr < 256) (hseq : seq < 18446744073709551616) (hs : s.size ≤ 1048576) (hbl : body.length ≤ 1048576) (hb : Rd w bv body) :
    Calls Yba.prog 14 #[.agg #[.int .u8 fr, .int .u64 seq, .string s, bv]] w fun e w' => ∃ v', e = .returned v' ∧ w'.ownsRow w.heap.size 5 1 v' (encOf fr seq s.data.toList body).length (Lib.byteCells (encOf fr seq s.data.toList body)) ∧ Frm (fun _ => False) w w' := by
  obtain ⟨i0, hi, hy0, hy1, hy2⟩ := info_parts info5
  have hfr' : (fr : Int) < 256 := by omega
  have hl1 := Lib.uvarint_length64 (x := fr) (by omega)
  have hl2 := Lib.uvarint_length64 hseq
  have hl3 := Lib.uvarint_length64 (x := s.size) (by omega)
  have hs' : (s.size : Int) ≤ 1048576 := by omega
  have hx0 := Blk.new w #[Value.int IntKind.u8 fr, Value.int IntKind.u64 seq, Value.string s, bv] 67
  have hf0 : Frm (fun _ => False) w (w.alloc (Obj.cells #[Value.int IntKind.u8 fr, Value.int IntKind.u64 seq, Value.string s, bv] 67)) := (Frm.refl _ _).alloc _
  go_enter Yba.func14, Yba.ntmps14
  go_wp2_with fail
  refine (uvarint_ok (w.heap.size + 1) fr 0 (.slice none 0 0) [] _ (by omega) (World.ownsRow_nil _ _ _ _) (by omega) (by simp)).mono ?_
  rintro e w1 ⟨v1, rfl, own1, g1⟩
  have hf1 := hf0.trans (grew_none g1) (fun _ _ h => h)
  have hx1 := (grew_none g1).blk hx0 id
  generalize (w.alloc (Obj.cells #[Value.int IntKind.u8 fr, Value.int IntKind.u64 seq, Value.string s, bv] 67)) = W0 at g1 hx0 hf0
  clear g1 hx0 hf0
  have c1 := hx1.cell 1
  simp at c1
  have hn1 : ∀ k, v1.ownBlock = some k → w.heap.size + 1 ≤ k := fun k hk => (owns_lt own1 k hk).1
  have hz1 := hx1.lt
  go_wp2_with fail
  refine (uvarint_ok (w.heap.size + 1) seq _ v1 _ _ hseq own1 (by omega) (by omega)).mono ?_
  rintro e w2 ⟨v2, rfl, own2, g2⟩
  have hf2 := hf1.trans g2.1 (fun j hj h => by have := hn1 j h; omega)
  have hx2 := g2.1.blk hx1 (fun h => by have := hn1 _ h; omega)
  clear g2 hx1 c1 hf1 own1
  have c2 := hx2.cell 2
  have c3 := hx2.cell 3
  simp at c2 c3
  have hn2 : ∀ k, v2.ownBlock = some k → w.heap.size + 1 ≤ k := fun k hk => (owns_lt own2 k hk).1
  have hz2 := hx2.lt
  have hb2 := hb.frm hf2 (fun _ _ h => h)
  by_cases hnm : s.toList.isEmpty = true
  · have he : s.data.toList = [] := by rw [bytes_isEmpty] at hnm; simpa using hnm
    go_wp2_with (at_builtin; refine wpList_append_src _ rfl _ _ 62 62 rfl (w.heap.size + 1) 5 i0 (.int .u8 0) 1 1 Yba.underlying62 hi hy0 hy1 hy2 rfl v2 _ _ rfl own2 bv rfl _ _ (hb2.src Yba.underlying62) (by omega) (by omega) (by omega) ?_; intro v3 w3 own3 gw hat)
    go_ret
    refine ⟨v3, rfl, ?_, ?_⟩
    · refine owns_base (owns_cast own3 ?_ ?_) (Nat.le_succ _)
      · simp [encOf, he]
        omega
      · simp [encOf, he, byteCells_app]
    · exact hf2.trans (Frm.grown gw) (fun j hj h => by have := hn2 j h; omega)
  · have hnm' : s.toList.isEmpty = false := by simpa using hnm
    have he : ¬ s.data.toList = [] := by rw [bytes_isEmpty] at hnm; simpa using hnm
    go_wp2_with fail
    refine (uvarint_ok (w.heap.size + 1) s.size _ v2 _ _ (by omega) own2 (by omega) (by omega)).mono ?_
    rintro e w3 ⟨v3, rfl, own3, g3⟩
    have hf3 := hf2.trans g3.1 (fun j hj h => by have := hn2 j h; omega)
    have hx3 := g3.1.blk hx2 (fun h => by have := hn2 _ h; omega)
    clear g3 hx2 c2 c3 hf2 hb2
    have c2 := hx3.cell 2
    simp at c2
    have hn3 : ∀ k, v3.ownBlock = some k → w.heap.size + 1 ≤ k := fun k hk => (owns_lt own3 k hk).1
    have hz3 := hx3.lt
    go_wp2_with (first
      | (at_builtin; refine wpList_append_src _ rfl _ _ 62 9 rfl (w.heap.size + 1) 5 i0 (.int .u8 0) 1 1 Yba.underlying62 hi hy0 hy1 hy2 rfl v3 _ _ rfl own3 (.string s) rfl _ _ (Src.str s) (by omega) (by omega) (by omega) ?_; intro v4 w4 own4 gw4 hat4; have hx4 := (Frm.grown gw4).blk hx3 (fun h => by have := hn3 _ h; omega); have c4 : w4.cell? ⟨w.heap.size, 3, none⟩ = some bv := (hx4.cell 3); have hf4 := hf3.trans (Frm.grown gw4) (fun j hj h => by have := hn3 j h; omega); have hn4 : ∀ k, v4.ownBlock = some k → w.heap.size + 1 ≤ k := (fun k hk => (owns_lt own4 k hk).1); have hz4 := hx4.lt)
      | (at_builtin; refine wpList_append_src _ rfl _ _ 62 62 rfl (w.heap.size + 1) 5 i0 (.int .u8 0) 1 1 Yba.underlying62 hi hy0 hy1 hy2 rfl v4 _ _ rfl own4 bv rfl _ _ ((hb.frm hf4 (fun _ _ h => h)).src Yba.underlying62) (by omega) (by omega) (by omega) ?_; intro v5 w5 own5 gw5 hat5))
    go_ret
    refine ⟨v5, rfl, ?_, ?_⟩
    · refine owns_base (owns_cast own5 ?_ ?_) (Nat.le_succ _)
      · simp [encOf, he]
        omega
      · simp [encOf, he, byteCells_app]
    · exact hf4.trans (Frm.grown gw5) (fun j hj h => by have := hn4 j h; omega)
end Go.Proofs.Ybulkaryo
