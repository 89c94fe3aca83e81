/-
  THE BYTES THAT ARE FORWARDED: grow, appendName, appendForwardedEntry; bytes.Equal.
-/
import Derived.Test.YbulkaryoBytes
namespace Go.Proofs.Ybulkaryo
open Go.RowKit

theorem u64_wrap {n : Nat} (h : n < 18446744073709551616) : IntKind.u64.wrap (n : Int) = n := by
  rw [IntKind.wrap_u64]
  omega
theorem make_bytes (n : Nat) (hn : n ≤ 140737488355328) (w : World) :
    (Instr.makeSlice 62 (.int .i64 0) (.int .i64 (n : Int))).run Yba.prog w = .ok (.slice (some ⟨w.heap.size, 0, none⟩) 0 n) (w.alloc (.cells (madeCells #[.int .u8 0] n) 5)) := by
  obtain ⟨i, hi, hz, hs, hb⟩ := info_parts info5
  have hr := run_make (P := Yba.prog) w 62 5 i (.int .u8 0) Yba.underlying62 hi hz .i64 .i64 0 n (by omega) (by omega) (by rw [hb]; omega) (by omega)
  simp only [Int.toNat_natCast, Int.toNat_zero, hs, Nat.mul_one] at hr
  exact hr

set_option maxRecDepth 100000 in
set_option maxHeartbeats 1000000 in
theorem grow_ok (n : Nat) (w : World) (hn : 1 ≤ n) (hn2 : n ≤ 70368744177664) :
    Calls Yba.prog 32 #[.slice none 0 0, .int .i64 n] w fun e w' => ∃ v', e = .returned v' ∧ w'.ownsRow w.heap.size 5 1 v' 0 [] ∧ Frm (fun _ => False) w w' := by
  obtain ⟨i0, hi, hy0, hy1, hy2⟩ := info_parts info5
  have hmk := make_bytes n (by omega)
  have hn' : (1 : Int) ≤ (n : Int) := by omega
  have hown : (w.alloc (.cells (madeCells #[.int .u8 0] n) 5)).ownsRow w.heap.size 5 1 (.slice (some ⟨w.heap.size, 0, none⟩) 0 n) 0 [] :=
    World.ownsRow_made w (madeCells #[.int .u8 0] n) n (Nat.le_refl _) (by unfold maxLen; omega) (by simp [madeCells])
  have hf : Frm (fun _ => False) w (w.alloc (.cells (madeCells #[.int .u8 0] n) 5)) := (Frm.refl _ _).alloc _
  go_enter Yba.func32, Yba.ntmps32
  go_wp2_with (at_builtin; refine wpList_append_src _ rfl _ _ 62 62 rfl w.heap.size 5 i0 (.int .u8 0) 1 1 Yba.underlying62 hi hy0 hy1 hy2 rfl (.slice (some ⟨w.heap.size, 0, none⟩) 0 n) _ _ rfl hown (.slice none 0 0) rfl 0 [] (Src.ofNil _ Yba.underlying62 0) (by omega) (by omega) (by simp) ?_; intro v3 w3 own3 gw hat)
  go_ret
  refine ⟨v3, rfl, own3, hf.trans (Frm.grown gw) (fun j hj h => ?_)⟩
  have : w.heap.size = j := Option.some.inj h
  omega

set_option maxRecDepth 100000 in
set_option maxHeartbeats 1000000 in
theorem appendName_ok (base n : Nat) (sv : Value) (xs : List Value) (s : ByteArray) (w : World) (hs : s.size ≤ 1048576) (hown : w.ownsRow base 5 1 sv n xs) (hn : n ≤ 1073741824) (hbase : base ≤ w.heap.size) :
    Calls Yba.prog 33 #[sv, .string s] w fun e w' => ∃ v', e = .returned v' ∧ w'.ownsRow base 5 1 v' (n + (Lib.uvarint s.size).length + s.size) (xs ++ Lib.byteCells (Lib.uvarint s.size) ++ Lib.byteCells s.data.toList) ∧ Grew sv w v' w' := by
  obtain ⟨i0, hi, hy0, hy1, hy2⟩ := info_parts info5
  have hs' : (s.size : Int) ≤ 1048576 := by omega
  have hl3 := Lib.uvarint_length64 (x := s.size) (by omega)
  go_enter Yba.func33, Yba.ntmps33
  go_wp2_with fail
  refine (uvarint_ok base s.size _ sv _ _ (by omega) hown (by omega) (by omega)).mono ?_
  rintro e w1 ⟨v1, rfl, own1, g1⟩
  have hb1 : base ≤ w1.heap.size := Nat.le_trans hbase g1.1.size
  go_wp2_with (at_builtin; refine wpList_append_src _ rfl _ _ 62 9 rfl base 5 i0 (.int .u8 0) 1 1 Yba.underlying62 hi hy0 hy1 hy2 rfl v1 _ _ rfl own1 (.string s) rfl _ _ (Src.str s) (by omega) (by omega) (by omega) ?_; intro v2 w2 own2 gw hat)
  go_ret
  exact ⟨v2, rfl, own2, g1.trans (Grew.append gw hat)⟩

theorem Rd.len {w : World} {v : Value} {bs : List UInt8} (h : Rd w v bs) (ty : TypeId) (w' : World) : (Builtin.len_ #[62] ty #[v]).run Yba.prog w' = .ok (.int .i64 (bs.length : Int)) w' := by
  rcases h with ⟨p, c, rfl, rfl⟩ | ⟨b, o, c, rfl, _, _⟩
  · simp [go_sem, Builtin.len_]
  · simp [go_sem, Builtin.len_]
theorem nums_back (bs : List UInt8) : (bs.map fun x => ((x.toNat : Nat) : Int)).map (fun n => UInt8.ofNat n.toNat) = bs := by
  rw [List.map_map]
  conv => rhs; rw [← List.map_id bs]
  exact List.map_congr_left fun x _ => by simp
theorem convert_none (w : World) (a : Addr) (c : Nat) : (convert 62 9 (.slice (some a) 0 c)).run Yba.prog w = .ok (.string ⟨([] : List UInt8).toArray⟩) w := by
  have hl : (loadCells a 0).run Yba.prog w = .ok (([] : List Int).map (Value.int .u8)).toArray w := by
    have := run_loadCells_list (P := Yba.prog) w a [] (fun j v hj => by cases hj)
    simpa using this
  rw [run_convert_bytes_string w 62 9 5 _ 0 c Yba.underlying62 Yba.underlying5 Yba.underlying9, run_bytesToString w _ 0 c [] hl]
  rfl
-- A slice of bytes as a string.
theorem Rd.str {w : World} {v : Value} {bs : List UInt8} (h : Rd w v bs) : (convert 62 9 v).run Yba.prog w = .ok (.string ⟨bs.toArray⟩) w := by
  rcases h with ⟨p, c, rfl, rfl⟩ | ⟨b, o, c, rfl, _, hc⟩
  · cases p with
    | none => exact run_convert_bytes_nil w 62 5 Yba.underlying62 Yba.underlying5 0 c 9 Yba.underlying9
    | some a => exact convert_none w a c
  · have hr := run_convert_bytes_arg (P := Yba.prog) w 62 5 Yba.underlying62 Yba.underlying5 b o bs.length c (bs.map fun x => ((x.toNat : Nat) : Int)) (by simp) (fun i hi => ?_) 9 Yba.underlying9
    · rw [hr, strOfNums, nums_back]
    · rw [hc i bs[i] (by simp [hi])]
      simp [hi]

set_option maxRecDepth 100000 in
set_option maxHeartbeats 1000000 in
theorem equal_ok (v1 v2 : Value) (b1 b2 : List UInt8) (w : World) (h1 : Rd w v1 b1) (h2 : Rd w v2 b2) :
    Calls Yba.prog 15 #[v1, v2] w fun e w' => e = .returned (.bool (b1 == b2)) ∧ w' = w := by
  have k1 := h1.str
  have k2 := h2.str
  have l1 : (⟨b1.toArray⟩ : ByteArray).toList = b1 := by rw [ByteArray.toList_eq]
  have l2 : (⟨b2.toArray⟩ : ByteArray).toList = b2 := by rw [ByteArray.toList_eq]
  go_enter Yba.func15, Yba.ntmps15
  go_wp2
  go_ret
  exact ⟨rfl, rfl⟩

set_option maxRecDepth 100000 in
set_option maxHeartbeats 2000000 in
theorem forwarded_ok (fr seq : Nat) (s : ByteArray) (bv : Value) (body : List UInt8) (w : World) (hfr : fr < 256) (hseq : seq < 18446744073709551616) (hs : s.size ≤ 1048576) (hbl : body.length ≤ 1048576) (hb : Rd w bv body) :
    Calls Yba.prog 27 #[.slice none 0 0, .agg #[.int .i64 fr, .int .u64 seq, bv, .string s]] w fun e w' => ∃ v', e = .returned v' ∧ w'.ownsRow w.heap.size 5 1 v' (encOf fr seq s.data.toList body).length (Lib.byteCells (encOf fr seq s.data.toList body)) ∧ Frm (fun _ => False) w w' := by
  obtain ⟨i0, hi, hy0, hy1, hy2⟩ := info_parts info5
  have hfr' : (fr : Int) < 256 := by omega
  have hl1 := Lib.uvarint_length64 (x := fr) (by omega)
  have hl2 := Lib.uvarint_length64 hseq
  have hl3 := Lib.uvarint_length64 (x := s.size) (by omega)
  have hs' : (s.size : Int) ≤ 1048576 := by omega
  have hbl' : (body.length : Int) ≤ 1048576 := by omega
  have hlen := hb.len
  have hx0 := Blk.new w #[Value.int IntKind.i64 fr, Value.int IntKind.u64 seq, bv, Value.string s] 70
  have hf0 : Frm (fun _ => False) w (w.alloc (Obj.cells #[Value.int IntKind.i64 fr, Value.int IntKind.u64 seq, bv, Value.string s] 70)) := (Frm.refl _ _).alloc _
  go_enter Yba.func27, Yba.ntmps27
  go_wp2_with fail
  rw [show (30 + (s.size : Int) + (body.length : Int)) = ((30 + s.size + body.length : Nat) : Int) from by omega]
  refine (grow_ok (30 + s.size + body.length) _ (by omega) (by omega)).mono ?_
  rintro e w1 ⟨v1, rfl, own1, f1⟩
  have hf1 := hf0.trans f1 (fun _ _ h => h)
  have hx1 := f1.blk hx0 id
  rw [size_new] at own1
  have hn1 : ∀ k, v1.ownBlock = some k → w.heap.size + 1 ≤ k := fun k hk => (owns_lt own1 k hk).1
  generalize (w.alloc (Obj.cells #[Value.int IntKind.i64 fr, Value.int IntKind.u64 seq, bv, Value.string s] 70)) = W0 at f1 hx0 hf0
  clear f1 hx0 hf0
  have hz1 := hx1.lt
  have c0 : w1.cell? ⟨w.heap.size, 0, none⟩ = some (.int .i64 fr) := hx1.cell 0
  have c1 : w1.cell? ⟨w.heap.size, 1, none⟩ = some (.int .u64 seq) := hx1.cell 1
  have hwf : IntKind.u64.wrap (fr : Int) = fr := u64_wrap (by omega)
  go_wp2_with fail
  go_region_held3 (fun w' => w'.cell? ⟨w.heap.size, 0, none⟩ = some (.int .i64 fr) ∧ w'.cell? ⟨w.heap.size, 1, none⟩ = some (.int .u64 seq)) (go_keep)
    (first
      | (go_at_call_of 23 (Value.int .u64 (fr : Int)); refine (uvarint_ok (w.heap.size + 1) fr 0 v1 [] _ (by omega) (by exact own1) (by omega) (by simp; omega)).mono ?_; rintro e w2 ⟨v2, rfl, own2, g2⟩; have hx2 := g2.1.blk (cs := #[Value.int IntKind.i64 fr, Value.int IntKind.u64 seq, bv, Value.string s]) (t := 70) (b := w.heap.size) (by exact hx1) (fun h => by have := hn1 _ h; omega); have c2 : w2.cell? ⟨w.heap.size, 0, none⟩ = some (.int .i64 fr) := (hx2.cell 0); have c3 : w2.cell? ⟨w.heap.size, 1, none⟩ = some (.int .u64 seq) := (hx2.cell 1); have hn2 : ∀ k, v2.ownBlock = some k → w.heap.size + 1 ≤ k := (fun k hk => (owns_lt own2 k hk).1); have hf2 := hf1.drew.trans g2.1 (fun j hj h => by have := hn1 j h; omega); have hz2 := hx2.lt)
      | (go_at_call_of 23 (Value.int .u64 (seq : Int)); refine (uvarint_ok (w.heap.size + 1) seq _ v2 _ _ hseq (by exact own2) (by omega) (by omega)).mono ?_; rintro e w3 ⟨v3, rfl, own3, g3⟩; have hx3 := g3.1.blk hx2 (fun h => by have := hn2 _ h; omega); have c4 : w3.cell? ⟨w.heap.size, 0, none⟩ = some (.int .i64 fr) := (hx3.cell 0); have c5 : w3.cell? ⟨w.heap.size, 1, none⟩ = some (.int .u64 seq) := (hx3.cell 1); have hn3 : ∀ k, v3.ownBlock = some k → w.heap.size + 1 ≤ k := (fun k hk => (owns_lt own3 k hk).1); have hf3 := hf2.trans g3.1 (fun j hj h => by have := hn2 j h; omega); have hz3 := hx3.lt))
  rename_i hHeld
  have c6 : w3.cell? ⟨w.heap.size, 3, none⟩ = some (.string s) := hx3.cell 3
  have c7 : w3.cell? ⟨w.heap.size, 2, none⟩ = some bv := hx3.cell 2
  have hb3 := hb.frm hf3 (fun _ _ h => h)
  clear own1 hf1 hx1 own2 g2 hx2 hf2 g3 c0 c1 c2 c3 c4 c5 hHeld hwf
  by_cases hnm : s.toList.isEmpty = true
  · have he : s.data.toList = [] := by rw [bytes_isEmpty] at hnm; simpa using hnm
    go_wp2_with (at_builtin; refine wpList_append_src _ rfl _ _ 62 62 rfl (w.heap.size + 1) 5 i0 (.int .u8 0) 1 1 Yba.underlying62 hi hy0 hy1 hy2 rfl v3 _ _ rfl own3 bv rfl _ _ (hb3.src Yba.underlying62) (by omega) (by omega) (by omega) ?_; intro v4 w4 own4 gw hat)
    go_ret
    refine ⟨v4, rfl, ?_, hf3.trans (Frm.grown gw) (fun j hj h => by have := hn3 j h; omega)⟩
    refine owns_base (owns_cast own4 ?_ ?_) (Nat.le_succ _)
    · simp [encOf, he]
      omega
    · simp [encOf, he, byteCells_app]
  · have hnm' : s.toList.isEmpty = false := by simpa using hnm
    have he : ¬ s.data.toList = [] := by rw [bytes_isEmpty] at hnm; simpa using hnm
    go_wp2_with fail
    refine (appendName_ok (w.heap.size + 1) _ v3 _ s _ hs own3 (by omega) (by omega)).mono ?_
    rintro e w4 ⟨v4, rfl, own4, g4⟩
    have hf4 := hf3.trans g4.1 (fun j hj h => by have := hn3 j h; omega)
    have hx4 := g4.1.blk hx3 (fun h => by have := hn3 _ h; omega)
    have c8 : w4.cell? ⟨w.heap.size, 2, none⟩ = some bv := hx4.cell 2
    have hb4 := hb.frm hf4 (fun _ _ h => h)
    have hn4 : ∀ k, v4.ownBlock = some k → w.heap.size + 1 ≤ k := fun k hk => (owns_lt own4 k hk).1
    have hz4 := hx4.lt
    go_wp2_with (at_builtin; refine wpList_append_src _ rfl _ _ 62 62 rfl (w.heap.size + 1) 5 i0 (.int .u8 0) 1 1 Yba.underlying62 hi hy0 hy1 hy2 rfl v4 _ _ rfl own4 bv rfl _ _ (hb4.src Yba.underlying62) (by omega) (by omega) (by omega) ?_; intro v5 w5 own5 gw hat)
    go_ret
    refine ⟨v5, rfl, ?_, hf4.trans (Frm.grown gw) (fun j hj h => by have := hn4 j h; omega)⟩
    refine owns_base (owns_cast own5 ?_ ?_) (Nat.le_succ _)
    · simp [encOf, he]
      omega
    · simp [encOf, he, byteCells_app]
end Go.Proofs.Ybulkaryo
