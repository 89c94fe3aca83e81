/-
  SMALL LAWS ON MEMORY for the two laws of this seat: blocks that are known whole; what a call may have turned (Frm); bytes behind a slice (Rd); append from whatever source onto a row of the call's own.
-/
import Derived.Test.YbulkaryoRows
import Derived.WalkKit
import Derived.WalkSpells
import Derived.WalkLawsBesides
import Derived.BigQuiet
import Derived.Deep.OwnRows
import Derived.Deep.AppendSrc
import Derived.Deep.AppendLies
import Derived.Deep.RegionHeld3
import Derived.Deep.RegionWith
import Derived.Deep.DrawnRows
import Derived.Lib.VarintMem
import Derived.Lib.Varint
namespace Go.Proofs.Ybulkaryo
open Go.RowKit

theorem orMap {a b c d : Prop} (h : a ∨ b) (f : a → c) (g : b → d) : c ∨ d := h.elim (fun x => .inl (f x)) (fun y => .inr (g y))
/-! ### Blocks -/
/-- Block b holds the cells cs, of type t, none of them frozen. -/
def Blk (w : World) (b : Nat) (cs : Array Value) (t : TypeId) : Prop := w.heap[b]? = some (.cells cs t (0, 0))
theorem lt_of_heap {w : World} {b : Nat} {o : Obj} (h : w.heap[b]? = some o) : b < w.heap.size := (Array.getElem?_eq_some_iff.1 h).1
theorem heap_new (w : World) (x : Obj) : (w.alloc x).heap[w.heap.size]? = some x := (MapKept.heap_alloc w x).1
theorem size_new (w : World) (x : Obj) : (w.alloc x).heap.size = w.heap.size + 1 := by simp

section
variable {w : World} {b : Nat} {cs : Array Value} {t : TypeId}
theorem Blk.lt (h : Blk w b cs t) : b < w.heap.size := lt_of_heap h
theorem Blk.cell (h : Blk w b cs t) (o : Nat) : w.cell? ⟨b, o, none⟩ = cs[o]? := by
  unfold Blk at h
  simp [World.cell?, h]
theorem Blk.frozen (h : Blk w b cs t) (o : Nat) : w.frozen? ⟨b, o, none⟩ = false := by
  unfold Blk at h
  simp [World.frozen?, h]
theorem Blk.new (w : World) (cs : Array Value) (t : TypeId) : Blk (w.alloc (.cells cs t)) w.heap.size cs t := heap_new w _
theorem Blk.same (h : Blk w b cs t) (o : Nat) (v : Value) : Blk (w.setCell ⟨b, o, none⟩ v) b (cs.setIfInBounds o v) t := by
  unfold Blk at h ⊢
  simp [World.setCell, Array.getElem?_modify, h]
theorem Blk.drewN (h : Blk w b cs t) (n : Nat) : Blk (w.drewN n) b cs t := h
end

/-! ### What may have turned -/
/-- Of what was there only the blocks of which S speaks may have turned. -/
structure Frm (S : Nat → Prop) (w w' : World) : Prop where
  os : w'.os = w.os
  tape : w'.tape = w.tape
  output : w'.output = w.output
  size : w.heap.size ≤ w'.heap.size
  block : ∀ k, k < w.heap.size → ¬ S k → w'.heap[k]? = w.heap[k]?

section
variable {S T : Nat → Prop} {w w1 w2 : World}
theorem Frm.refl (S : Nat → Prop) (w : World) : Frm S w w := ⟨rfl, rfl, rfl, Nat.le_refl _, fun _ _ _ => rfl⟩
theorem Frm.trans (h : Frm S w w1) (k : Frm T w1 w2) (hs : ∀ j, j < w.heap.size → T j → S j) : Frm S w w2 :=
  ⟨k.os.trans h.os, k.tape.trans h.tape, k.output.trans h.output, Nat.le_trans h.size k.size, fun j hj hn =>
    (k.block j (Nat.lt_of_lt_of_le hj h.size) (fun ht => hn (hs j hj ht))).trans (h.block j hj hn)⟩
theorem Frm.mono (h : Frm S w w1) (hs : ∀ j, j < w.heap.size → S j → T j) : Frm T w w1 :=
  ⟨h.os, h.tape, h.output, h.size, fun j hj hn => h.block j hj (fun k => hn (hs j hj k))⟩
theorem Frm.drewN (h : Frm S w w1) (n : Nat) : Frm S w (w1.drewN n) := ⟨h.os, h.tape, h.output, h.size, h.block⟩
theorem Frm.drew (h : Frm S w w1) : Frm S w w1.drew := ⟨h.os, h.tape, h.output, h.size, h.block⟩
theorem Frm.alloc (h : Frm S w w1) (x : Obj) : Frm S w (w1.alloc x) :=
  ⟨h.os, h.tape, h.output, by rw [size_new]; exact Nat.le_succ_of_le h.size, fun j hj hn => (Below.heap_alloc w1 x j (Nat.lt_of_lt_of_le hj h.size)).trans (h.block j hj hn)⟩
theorem Frm.setCell (h : Frm S w w1) (a : Addr) (v : Value) (ha : a.block < w.heap.size → S a.block) : Frm S w (w1.setCell a v) :=
  ⟨h.os, h.tape, h.output, by rw [World.size_setCell]; exact h.size, fun j hj hn =>
    (Below.heap_setCell w1 a v j (fun e => hn (e ▸ ha (e ▸ hj)))).trans (h.block j hj hn)⟩
theorem Frm.grown {row : Option Nat} (hg : w.grownBy w1 row) : Frm (fun k => row = some k) w w1 :=
  ⟨hg.os, hg.tape, hg.output, hg.size, fun k hk hn => hg.block k hk (fun e => hn e.symm)⟩
theorem Frm.below (h : Frm S w w1) {B : Nat} (hB : B ≤ w.heap.size) (hS : ∀ k, S k → B ≤ k) : Below B w w1 :=
  ⟨h.os, h.tape, h.output, h.size, fun k hk => h.block k (Nat.lt_of_lt_of_le hk hB) (fun hs => Nat.not_le_of_lt hk (hS k hs))⟩
theorem Frm.keep (h : Frm S w w1) {b : Nat} {o : Obj} (hb : w.heap[b]? = some o) (hn : ¬ S b) : w1.heap[b]? = some o := (h.block b (lt_of_heap hb) hn).trans hb
theorem Frm.blk (h : Frm S w w1) {b : Nat} {cs : Array Value} {t : TypeId} (hb : Blk w b cs t) (hn : ¬ S b) : Blk w1 b cs t := h.keep hb hn
theorem Frm.cell (h : Frm S w w1) {a : Addr} (ha : a.block < w.heap.size) (hn : ¬ S a.block) : w1.cell? a = w.cell? a := World.cell?_of_block (h.block a.block ha hn)
theorem Frm.owns (h : Frm S w w1) {base : Nat} {e : TypeId} {size n : Nat} {v : Value} {xs : List Value} (ho : w.ownsRow base e size v n xs) (hn : ∀ k, v.ownBlock = some k → ¬ S k) : w1.ownsRow base e size v n xs := by
  refine ⟨ho.1, ?_⟩
  rcases ho.2 with h0 | ⟨g, cap, cur, rfl, hb, hg, hr⟩
  · exact .inl h0
  · exact .inr ⟨g, cap, cur, rfl, hb, h.keep hg (hn g rfl), hr⟩
end

theorem owns_lt {w : World} {base : Nat} {e : TypeId} {size n : Nat} {v : Value} {xs : List Value} (ho : w.ownsRow base e size v n xs) : ∀ k, v.ownBlock = some k → base ≤ k ∧ k < w.heap.size := ho.lt

/-! ### Bytes behind a slice -/
/-- The slice v reads as the bytes bs. -/
def Rd (w : World) (v : Value) (bs : List UInt8) : Prop :=
  (∃ p c, v = .slice p 0 c ∧ bs = []) ∨ ∃ b o c, v = .slice (some ⟨b, o, none⟩) bs.length c ∧ b < w.heap.size ∧ ∀ j x, bs[j]? = some x → w.cell? ⟨b, o + j, none⟩ = some (.int .u8 (x.toNat : Int))

theorem add_lit (b o j : Nat) : (⟨b, o, none⟩ : Addr).add j = ⟨b, o + j, none⟩ := by
  unfold Addr.add
  split <;> simp_all

theorem byteCells_get {bs : List UInt8} {j : Nat} {u : Value} (h : (Lib.byteCells bs)[j]? = some u) : ∃ x, bs[j]? = some x ∧ u = .int .u8 (x.toNat : Int) := by
  unfold Lib.byteCells at h
  rw [List.getElem?_map] at h
  cases hx : bs[j]? with
  | none => rw [hx] at h; cases h
  | some x => rw [hx] at h; exact ⟨x, rfl, (Option.some.inj h).symm⟩
theorem byteCells_at {bs : List UInt8} {j : Nat} {x : UInt8} (h : bs[j]? = some x) : (Lib.byteCells bs)[j]? = some (.int .u8 (x.toNat : Int)) := by
  unfold Lib.byteCells
  rw [List.getElem?_map, h]
  rfl
theorem byteCells_len (bs : List UInt8) : (Lib.byteCells bs).length = bs.length := by simp [Lib.byteCells]
theorem byteCells_one (bs : List UInt8) : ∀ u ∈ Lib.byteCells bs, u.oneCell' = true := by
  intro u hu
  unfold Lib.byteCells at hu
  obtain ⟨x, _, rfl⟩ := List.mem_map.1 hu
  rfl
theorem byteCells_app (a b : List UInt8) : Lib.byteCells (a ++ b) = Lib.byteCells a ++ Lib.byteCells b := by simp [Lib.byteCells]

/-- The block that a slice with an element reads from. -/
def rdB : Value → Option Nat
  | .slice (some a) (_ + 1) _ => some a.block
  | _ => none
theorem rdB_own {v : Value} {k : Nat} (h : rdB v = some k) : v.ownBlock = some k := by
  unfold rdB at h
  split at h
  · exact h
  · cases h
theorem Rd.src {w : World} {v : Value} {bs : List UInt8} (h : Rd w v bs) {P : Program} {tx e : TypeId} (hk : P.underlying tx = some (.slice e)) : Src P 1 tx v bs.length (Lib.byteCells bs) w := by
  rcases h with ⟨p, c, rfl, rfl⟩ | ⟨b, o, c, rfl, _, hc⟩
  · cases p with
    | none => exact Src.ofNil w hk c
    | some a => exact Src.ofSlice w hk a 0 c [] rfl (fun j u hu => by cases hu) (fun u hu => by cases hu)
  · refine Src.ofSlice w hk ⟨b, o, none⟩ bs.length c (Lib.byteCells bs) (by rw [byteCells_len, Nat.mul_one]) (fun j u hu => ?_) (byteCells_one bs)
    obtain ⟨x, hx, rfl⟩ := byteCells_get hu
    rw [add_lit]
    exact hc j x hx
theorem Rd.frm {S : Nat → Prop} {w w' : World} {v : Value} {bs : List UInt8} (h : Rd w v bs) (hf : Frm S w w') (hn : ∀ k, rdB v = some k → ¬ S k) : Rd w' v bs := by
  rcases h with h | ⟨b, o, c, rfl, hb, hc⟩
  · exact .inl h
  · refine .inr ⟨b, o, c, rfl, Nat.lt_of_lt_of_le hb hf.size, fun j x hx => (hf.cell (a := ⟨b, o + j, none⟩) hb (hn b ?_)).trans (hc j x hx)⟩
    cases bs with
    | nil => cases hx
    | cons y ys => rfl
theorem Rd.of_owns {w : World} {base n : Nat} {v : Value} {bs : List UInt8} (h : w.ownsRow base 5 1 v n (Lib.byteCells bs)) : Rd w v bs := by
  have hl : bs.length = n := by have := h.1; rw [byteCells_len] at this; omega
  rcases h.2 with ⟨rfl, rfl⟩ | ⟨g, cap, cur, rfl, hb, hg, hr⟩
  · exact .inl ⟨none, 0, rfl, List.eq_nil_of_length_eq_zero hl⟩
  · refine .inr ⟨g, 0, cap, by rw [hl], lt_of_heap hg, fun j x hx => ?_⟩
    have := h.cells (g := g) rfl j _ (byteCells_at hx)
    rw [add_lit] at this
    exact this

/-! ### append from whatever source onto a row of one's own -/
section
variable {P : Program} (w : World)
theorem run_append_room_row (t tx ty e : TypeId) (i : TypeInfo) (ht : P.underlying t = some (.slice e)) (hi : P.info? e = some i) (g sLen sCap : Nat) (cur : Array Value) (hg : w.heap[g]? = some (.cells cur e (0, 0)))
    (x : Value) (m : Nat) (news : List Value) (hs : Src P i.size tx x m news w) (hroom : sLen + m ≤ sCap) (hfit : sLen * i.size + news.length ≤ cur.size) :
    (Builtin.append_ #[t, tx] ty #[.slice (some ⟨g, 0, none⟩) sLen sCap, x]).run P w =
      .ok (.slice (some ⟨g, 0, none⟩) (sLen + m) sCap) (w.setRow g (cur.toList.take (sLen * i.size) ++ news ++ cur.toList.drop (sLen * i.size + news.length)).toArray) := by
  have hst := run_storeCells_at P g (sLen * i.size) e news 0 cur w hg (by simpa using hfit) hs.one
  simp only [Nat.add_zero] at hst
  rcases hs.kind with ⟨e', hk⟩ | hk <;> simp [Builtin.append_, run_underlying ht, run_underlying hk, sizeOf, typeInfo, hi, hs.len, hroom, hs.cells, Addr.add_lit, hst]

/-- append: the row grows by what the source yields; it lies where it lay, or in the block that is made now; else nothing turns. -/
theorem run_append_src (base : Nat) (t tx ty e : TypeId) (i : TypeInfo) (z : Value) (size bytes : Nat) (ht : P.underlying t = some (.slice e)) (hi : P.info? e = some i) (hz : i.zero = some z)
    (hsize : i.size = size) (hby : i.bytes = bytes) (hzs : z.cells.size = size)
    (v : Value) (n : Nat) (xs : List Value) (hown : w.ownsRow base e size v n xs) (x : Value) (m : Nat) (news : List Value) (hs : Src P size tx x m news w)
    (hbytes : (n + m) * bytes ≤ 140737488355328) (h63 : n + m ≤ 140737488355328) (hbase : base ≤ w.heap.size) :
    ∃ v' w', (Builtin.append_ #[t, tx] ty #[v, x]).run P w = .ok v' w' ∧ w'.ownsRow base e size v' (n + m) (xs ++ news) ∧ w.grownBy w' v.ownBlock ∧ (v'.ownBlock = v.ownBlock ∨ v'.ownBlock = some w.heap.size) := by
  subst hsize
  subst hby
  have hl := hs.newsLen
  have hlen : (xs ++ news).length = (n + m) * i.size := by rw [List.length_append, hown.1, hl, Nat.add_mul]
  have hmax : n + m ≤ maxLen := by unfold maxLen; omega
  have grown : ∀ (old : Nat), old < n + m → ∀ (row : Option Nat),
      (w.drew.alloc (.cells ((xs ++ news).toArray ++ Builtin.zeroCells z.cells (grownCap w (n + m) old e - (n + m))) e)).ownsRow base e i.size
        (.slice (some ⟨w.heap.size, 0, none⟩) (n + m) (grownCap w (n + m) old e)) (n + m) (xs ++ news) ∧
      w.grownBy (w.drew.alloc (.cells ((xs ++ news).toArray ++ Builtin.zeroCells z.cells (grownCap w (n + m) old e - (n + m))) e)) row := by
    intro old ho row
    have hge := grownCap_ge w (n + m) old e
    have hcm : grownCap w (n + m) old e ≤ maxLen := grownCap_le_maxLen w (n + m) old e hmax
    refine ⟨⟨hlen, .inr ⟨w.heap.size, _, _, rfl, hbase, heap_alloc_new w.drew _, hge, hcm, ?_, ?_⟩⟩, ⟨rfl, rfl, rfl, by simp, fun k hk _ => Below.heap_alloc w.drew _ k hk⟩⟩
    · rw [Array.size_append, List.size_toArray, hlen, size_zeroCells, hzs, ← Nat.add_mul]
      congr 1
      omega
    · rw [Array.toList_append, ← hlen]
      exact List.take_left
  rcases hown.2 with ⟨rfl, rfl⟩ | ⟨g, cap, cur, rfl, hbg, hg, hnc, hcm, hcs, htake⟩
  · have hx : xs = [] := List.eq_nil_of_length_eq_zero (by simpa using hown.1)
    subst hx
    by_cases hm : m = 0
    · subst hm
      have hn : news = [] := List.eq_nil_of_length_eq_zero (by simpa using hl)
      subst hn
      refine ⟨.slice none 0 0, w, ?_, World.ownsRow_nil w base e i.size, ⟨rfl, rfl, rfl, Nat.le_refl _, fun _ _ _ => rfl⟩, Or.inl rfl⟩
      rcases hs.kind with ⟨e', hk⟩ | hk <;> simp [Builtin.append_, run_underlying ht, run_underlying hk, sizeOf, typeInfo, hi, hs.len, hs.cells]
    · have hr := run_append_grow_src (P := P) w t tx ty e i z ht hi hz none 0 0 [] (by simp [Builtin.firstCells]) x m news hs (by omega) (by omega) (growslice_fits (by omega) (by simpa using hbytes))
      have hgr := grown 0 (by omega) (Value.ownBlock (.slice none 0 0))
      simp only [Nat.zero_add, List.nil_append] at hgr hr ⊢
      exact ⟨_, _, hr, hgr.1, hgr.2, Or.inr rfl⟩
  · by_cases hroom : n + m ≤ cap
    · have hfit : n * i.size + news.length ≤ cur.size := by rw [hl, hcs, ← Nat.add_mul]; exact Nat.mul_le_mul_right _ hroom
      have hr := run_append_room_row (P := P) w t tx ty e i ht hi g n cap cur hg x m news hs hroom hfit
      refine ⟨_, _, hr, ⟨hlen, .inr ⟨g, cap, _, rfl, hbg, setRow_heap w g cur _ e _ hg, hroom, hcm, ?_, ?_⟩⟩, ⟨rfl, rfl, rfl, by simp, fun k _ hk => setRow_other w g k _ (fun e => hk (by simp [Value.ownBlock, e]))⟩, Or.inl rfl⟩
      · simp only [List.size_toArray, List.length_append, List.length_take, List.length_drop, Array.length_toList]
        omega
      · rw [htake, ← hlen]
        exact List.take_left
    · have holds : ∀ j u, xs[j]? = some u → w.cell? ((⟨g, 0, none⟩ : Addr).add j) = some u := hown.cells (g := g) rfl
      have hr := run_append_grow_src (P := P) w t tx ty e i z ht hi hz (some ⟨g, 0, none⟩) n cap xs (run_firstCells_some w.drew i.size n ⟨g, 0, none⟩ n cap xs hown.1 (by simpa using holds)) x m news hs (by omega) (by omega) (growslice_fits (by omega) hbytes)
      have hgr := grown cap (by omega) (Value.ownBlock (.slice (some ⟨g, 0, none⟩) n cap))
      exact ⟨_, _, hr, hgr.1, hgr.2, Or.inr rfl⟩

/-- The law at the operation. -/
theorem wp_append_src {o : Oper} {a : Act} {K : Act → World → Prop} {Q : Exit → Act → World → Prop} (s x : Operand) (t tx : TypeId)
    (ho : o.op = .call { callee := .builtin .append, args := #[s, x], argTypes := #[t, tx] })
    (base : Nat) (e : TypeId) (i : TypeInfo) (z : Value) (size bytes : Nat) (ht : P.underlying t = some (.slice e)) (hi : P.info? e = some i) (hz : i.zero = some z)
    (hsize : i.size = size) (hby : i.bytes = bytes) (hzs : z.cells.size = size)
    (v : Value) (n : Nat) (xs : List Value) (hsv : a.eval s = v) (hown : w.ownsRow base e size v n xs) (xv : Value) (hxv : a.eval x = xv) (m : Nat) (news : List Value) (hs : Src P size tx xv m news w)
    (hbytes : (n + m) * bytes ≤ 140737488355328) (h63 : n + m ≤ 140737488355328) (hbase : base ≤ w.heap.size)
    (h : ∀ v' w', w'.ownsRow base e size v' (n + m) (xs ++ news) → w.grownBy w' v.ownBlock → (v'.ownBlock = v.ownBlock ∨ v'.ownBlock = some w.heap.size) → K (a.put o.dst v') w') : o.wp P a w K Q := by
  obtain ⟨v', w', hr, h2, h3, h4⟩ := run_append_src (P := P) w base t tx o.type e i z size bytes ht hi hz hsize hby hzs v n xs hown xv m news hs hbytes h63 hbase
  unfold Oper.wp execOp
  simp only [ho, resolve, invoke, builtin, Sem.run_bind, Sem.run_pure, Result.andThen_ok, List.map_toArray, List.map_cons, List.map_nil, hsv, hxv, hr]
  exact h v' w' h2 h3 h4

/-- At the list of a plain region's operations. -/
theorem wpList_append_src {ops : Array Oper} {rest : List Oper} {o : Oper} {a : Act} {Q : Exit → Act → World → Prop} (hgd : o.guard = none) (s x : Operand) (t tx : TypeId)
    (ho : o.op = .call { callee := .builtin .append, args := #[s, x], argTypes := #[t, tx] })
    (base : Nat) (e : TypeId) (i : TypeInfo) (z : Value) (size bytes : Nat) (ht : P.underlying t = some (.slice e)) (hi : P.info? e = some i) (hz : i.zero = some z)
    (hsize : i.size = size) (hby : i.bytes = bytes) (hzs : z.cells.size = size)
    (v : Value) (n : Nat) (xs : List Value) (hsv : a.eval s = v) (hown : w.ownsRow base e size v n xs) (xv : Value) (hxv : a.eval x = xv) (m : Nat) (news : List Value) (hs : Src P size tx xv m news w)
    (hbytes : (n + m) * bytes ≤ 140737488355328) (h63 : n + m ≤ 140737488355328) (hbase : base ≤ w.heap.size)
    (h : ∀ v' w', w'.ownsRow base e size v' (n + m) (xs ++ news) → w.grownBy w' v.ownBlock → (v'.ownBlock = v.ownBlock ∨ v'.ownBlock = some w.heap.size) → wpList P ops Q rest (a.put o.dst v') w') : wpList P ops Q (o :: rest) a w :=
  wpList_plain hgd fun _ hK => wp_append_src w s x t tx ho base e i z size bytes ht hi hz hsize hby hzs v n xs hsv hown xv hxv m news hs hbytes h63 hbase fun v' w' h2 h3 h4 => hK _ _ (h v' w' h2 h3 h4)

/-- At a step of a region that draws its order. -/
theorem step_append_src {ops : Array Oper} {o : Oper} {a : Act} {K : Act → World → Prop} {Q : Exit → Act → World → Prop} {E : Prop} (hgd : o.guard = none) (s x : Operand) (t tx : TypeId)
    (ho : o.op = .call { callee := .builtin .append, args := #[s, x], argTypes := #[t, tx] })
    (base : Nat) (e : TypeId) (i : TypeInfo) (z : Value) (size bytes : Nat) (ht : P.underlying t = some (.slice e)) (hi : P.info? e = some i) (hz : i.zero = some z)
    (hsize : i.size = size) (hby : i.bytes = bytes) (hzs : z.cells.size = size)
    (v : Value) (n : Nat) (xs : List Value) (hsv : a.eval s = v) (hown : w.ownsRow base e size v n xs) (xv : Value) (hxv : a.eval x = xv) (m : Nat) (news : List Value) (hs : Src P size tx xv m news w)
    (hbytes : (n + m) * bytes ≤ 140737488355328) (h63 : n + m ≤ 140737488355328) (hbase : base ≤ w.heap.size)
    (h : ∀ v' w', w'.ownsRow base e size v' (n + m) (xs ++ news) → w.grownBy w' v.ownBlock → (v'.ownBlock = v.ownBlock ∨ v'.ownBlock = some w.heap.size) → K (a.put o.dst v') w') :
    if Region.wanted o (yielded ops a.tmps) = true then Oper.wp P o a w K Q else E := by
  have hw : Region.wanted o (yielded ops a.tmps) = true := by simp [Region.wanted, hgd]
  rw [if_pos hw]
  exact wp_append_src w s x t tx ho base e i z size bytes ht hi hz hsize hby hzs v n xs hsv hown xv hxv m news hs hbytes h63 hbase h
end

end Go.Proofs.Ybulkaryo
