/-
  The law of the schedule: its plain parts, and what holds between its rounds.
-/
import Derived.Test.YbulkaryoFmtHaltS
namespace Go.Proofs.YbulkaryoFmt
open Go.RowKit

/-- The schedule as it lies in memory: from, to; from, to; and so on. -/
def flat (sf st : Nat → Nat) : Nat → List Value
  | 0 => []
  | k + 1 => flat sf st k ++ [.int .i64 (sf k), .int .i64 (st k)]
theorem flat_length (sf st : Nat → Nat) (k : Nat) : (flat sf st k).length = k * 2 := by
  induction k with
  | zero => rfl
  | succ k ih => rw [flat, List.length_append, ih, Nat.succ_mul]; rfl
theorem flat_congr {sf st sf' st' : Nat → Nat} {k : Nat} (h : ∀ i, i < k → sf i = sf' i ∧ st i = st' i) : flat sf st k = flat sf' st' k := by
  induction k with
  | zero => rfl
  | succ k ih => rw [flat, flat, ih (fun i hi => h i (by omega)), (h k (by omega)).1, (h k (by omega)).2]
theorem flat_ext {sf st : Nat → Nat} {k f t : Nat} : flat (ext sf k f) (ext st k t) (k + 1) = flat sf st k ++ [.int .i64 f, .int .i64 t] := by
  rw [flat, ext_new, ext_new, flat_congr (sf' := sf) (st' := st) (fun i hi => ⟨ext_old (by omega), ext_old (by omega)⟩)]
theorem flat_get (sf st : Nat → Nat) (k i : Nat) (hi : i < k) : (flat sf st k)[i * 2]? = some (.int .i64 (sf i)) ∧ (flat sf st k)[i * 2 + 1]? = some (.int .i64 (st i)) := by
  induction k with
  | zero => omega
  | succ k ih =>
    have hl := flat_length sf st k
    rw [flat]
    by_cases e : i = k
    · subst e
      rw [List.getElem?_append_right (by omega), List.getElem?_append_right (by omega), hl, Nat.sub_self, show i * 2 + 1 - i * 2 = 1 by omega]
      exact ⟨rfl, rfl⟩
    · rw [List.getElem?_append_left (by omega), List.getElem?_append_left (by omega)]
      exact ih (by omega)

theorem src_two {W : World} {x y : Value} {t tx e : TypeId} (hk : Ybaf.prog.underlying tx = some (.slice e)) (hx : x.oneCell' = true) (hy : y.oneCell' = true) : Src Ybaf.prog 2 tx (.slice (some ⟨W.heap.size, 0, none⟩) 1 1) 1 [x, y] (W.alloc (.cells #[x, y] t)) := by
  refine Src.ofSlice _ hk ⟨W.heap.size, 0, none⟩ 1 1 [x, y] rfl (fun j u hu => ?_) (by intro u hu; simp at hu; rcases hu with rfl | rfl; exact hx; exact hy)
  rw [add_lit, Blk.cell (w := W.alloc (.cells #[x, y] t)) (cs := #[x, y]) (t := t) (Blk.new W #[x, y] t)]
  simpa using hu

theorem info57 : (Ybaf.prog.info? 57).map (fun i => (i.zero, i.size, i.bytes)) = some (some (.agg #[.int .i64 0, .int .i64 0]), 2, 16) := by kernel_rfl

section
variable {K : Nat → Prop} {B n m : Nat} {A : Nat → Nat} {d : Nat → Arr} {S : Nat} {LB : Nat} {RB : Nat → Nat} {lc : Array Value}

/-- Weaker: the order of the heaps forgotten, the lists known. -/
theorem Sim.loose {w : World} {cs : Array Value} {hs : Nat → List Nat} {ix : Nat → Nat} {F0 F1 : Nat} {rc : Nat → Array Value} {lv : Nat → Nat → Value} {ls : Nat → Nat → List Nat} {now : Nat} {rem : Nat → Bool} (M : Sim K w B n m A d S cs hs ix F0 F1 true LB RB lc rc lv ls now rem) (hls : ∀ f t, f < n → t < n → ls f t = onLink m d rem f t) : Sim K w B n m A d S cs hs ix F0 F1 false LB RB lc rc lv ls now rem :=
  { M with
    q := { M.q with heap := fun h => by cases h }
    exact_ := fun _ => hls }
end

theorem Mems.frm {P : Nat → Prop} {w w' : World} {n : Nat} {cs cs' : Array Value} {K : Nat → Prop} (h : Mems w n cs K) (hc : cs'[0]? = cs[0]?) (hf : Frm P w w') (hP : ∀ k, k < w.heap.size → K k → ¬ P k) : Mems w' n cs' K := by
  obtain ⟨MB, mc, NB, nc, m0, m1, m2, m3, m4, m5, m6⟩ := h
  refine ⟨MB, mc, NB, nc, hc.trans m0, m1, hf.blk m2 (hP _ m2.lt m1), m3, hf.blk m4 (hP _ m4.lt m3), fun i hi => ?_, m6⟩
  obtain ⟨q, cm, r1, r2, r3, r4⟩ := m5 i hi
  exact ⟨q, cm, r1, r2, hf.blk r3 (hP _ r3.lt r2), r4⟩

/-- While the schedule is laid. -/
structure Scd (w1 : World) (K : Nat → Prop) (B n m : Nat) (A : Nat → Nat) (d : Nat → Arr) (S LB : Nat) (RB : Nat → Nat) (lc : Array Value) (cs : Array Value) (hs : Nat → List Nat) (ix : Nat → Nat) (F0 F1 : Nat) (rc : Nat → Array Value) (lv : Nat → Nat → Value) (ls : Nat → Nat → List Nat) (k : Nat) (cs' : Array Value) (schv : Value) (sf st : Nat → Nat) (wr : World) : Prop where
  sim : Sim K wr B n m A d S cs' hs ix F0 F1 false LB RB lc rc lv ls 0 (fun _ => true)
  keep : ∀ j, j ≠ 136 → cs'[j]? = cs[j]?
  c136 : cs'[136]? = some schv
  row : wr.ownsRow w1.heap.size 57 2 schv k (flat sf st k)
  fits : ∀ i, i < k → sf i < n ∧ st i < n
  frm : Frm (fun j => j = S ∨ w1.heap.size ≤ j) w1 wr
structure ScdX (w1 : World) (K : Nat → Prop) (B n m : Nat) (A : Nat → Nat) (d : Nat → Arr) (S LB : Nat) (RB : Nat → Nat) (lc : Array Value) (cs : Array Value) (hs : Nat → List Nat) (ix : Nat → Nat) (F0 F1 : Nat) (rc : Nat → Array Value) (lv : Nat → Nat → Value) (ls : Nat → Nat → List Nat) (k : Nat) (wr : World) : Prop where
  ex : ∃ cs' schv sf st, Scd w1 K B n m A d S LB RB lc cs hs ix F0 F1 rc lv ls k cs' schv sf st wr

section
variable {w1 : World} {K : Nat → Prop} {B n m : Nat} {A : Nat → Nat} {d : Nat → Arr} {S LB : Nat} {RB : Nat → Nat} {lc : Array Value} {cs : Array Value} {hs : Nat → List Nat} {ix : Nat → Nat} {F0 F1 : Nat} {rc : Nat → Array Value} {lv : Nat → Nat → Value} {ls : Nat → Nat → List Nat} {k : Nat} {cs' : Array Value} {schv : Value} {sf st : Nat → Nat} {wr : World}
theorem Scd.put (D : Scd w1 K B n m A d S LB RB lc cs hs ix F0 F1 rc lv ls k cs' schv sf st wr) (kBig : ∀ q, w1.heap.size ≤ q → K q) (hBz : B ≤ w1.heap.size) {f t : Nat} (hf : f < n) (ht : t < n) {v2 : Value} {w8 w9 : World} (own8 : w8.ownsRow w1.heap.size 57 2 v2 (k + 1) (flat sf st k ++ [.int .i64 f, .int .i64 t])) (fr8 : Frm (fun q => schv.ownBlock = some q) wr w8) (hS9 : Blk w9 S (cs'.setIfInBounds 136 v2) 51) (fr9 : Frm (fun q => q = S) w8 w9) : ScdX w1 K B n m A d S LB RB lc cs hs ix F0 F1 rc lv ls (k + 1) w9 := by
  have hlow := fun q hq => (D.row.lt q hq).1
  have hSB := D.sim.q.low
  have hLB := D.sim.l.lbl
  have h01 : 0 < w1.heap.size := by omega
  have M8 := D.sim.frm fr8 (fun q hq => kBig q (hlow q hq)) (fun hq => by have := hlow _ hq; omega) (fun hq => by have := hlow _ hq; omega)
  have M9 := M8.store hS9 (fun j hj => Array.getElem?_setIfInBounds_ne (by omega)) fr9
  refine ⟨_, v2, ext sf k f, ext st k t, M9, fun j hj => (Array.getElem?_setIfInBounds_ne (Ne.symm hj)).trans (D.keep j hj), Array.getElem?_setIfInBounds_self_of_lt (Array.getElem?_eq_some_iff.1 D.c136).1, ?_, fun i hi => ?_, (D.frm.trans fr8 (fun j _ e => .inr (hlow j e))).trans fr9 (fun j _ e => .inl e)⟩
  · rw [flat_ext]
    exact fr9.owns own8 (fun q hq e => by have := (own8.lt q hq).1; omega)
  · by_cases e : i = k
    · subst e
      rw [ext_new, ext_new]
      exact ⟨hf, ht⟩
    · rw [ext_old e, ext_old e]
      exact D.fits i (by omega)
end

/-- What holds between the rounds. -/
structure Sc (w0 : World) (K : Nat → Prop) (B n m : Nat) (A : Nat → Nat) (d : Nat → Arr) (S LB : Nat) (RB : Nat → Nat) (lc : Array Value) (pa : Option Addr) (ca G : Nat) (ps : Option Addr) (ns cps : Nat) (sf st : Nat → Nat) (step : Nat) (cs : Array Value) (hs : Nat → List Nat) (ix : Nat → Nat) (F0 F1 : Nat) (rc : Nat → Array Value) (lv : Nat → Nat → Value) (ls : Nat → Nat → List Nat) (rem : Nat → Bool) (gc : Array Value) (wr : World) : Prop where
  sim : Sim K wr B n m A d S cs hs ix F0 F1 false LB RB lc rc lv ls 0 rem
  c136 : cs[136]? = some (.slice ps ns cps)
  c137 : cs[137]? = some (.int .i64 step)
  c143 : cs[143]? = some .nilIface
  c144 : cs[144]? = some .nilIface
  g : Blk wr G gc 4
  gv : ∀ j, j < m → gc[j]? = some (.bool (!rem j))
  all : wr.ownsRow B 35 1 (.slice pa m ca) m ((List.range m).map (ptr A))
  mems : Mems wr n cs K
  sch : 0 < ns → ∃ sb sc, ps = some ⟨sb, 0, none⟩ ∧ K sb ∧ Blk wr sb sc 57 ∧ ∀ i, i < ns → sc[i * 2]? = some (.int .i64 (sf i)) ∧ sc[i * 2 + 1]? = some (.int .i64 (st i))
  frm : Frm (fun j => w0.heap.size ≤ j) w0 wr

structure ScX (w0 : World) (K : Nat → Prop) (B n m : Nat) (A : Nat → Nat) (d : Nat → Arr) (S LB : Nat) (RB : Nat → Nat) (lc : Array Value) (pa : Option Addr) (ca G : Nat) (ps : Option Addr) (ns cps : Nat) (sf st : Nat → Nat) (wr : World) : Prop where
  ex : ∃ step cs hs ix F0 F1 rc lv ls rem gc, Sc w0 K B n m A d S LB RB lc pa ca G ps ns cps sf st step cs hs ix F0 F1 rc lv ls rem gc wr

section
variable {w0 : World} {K : Nat → Prop} {B n m : Nat} {A : Nat → Nat} {d : Nat → Arr} {S LB : Nat} {RB : Nat → Nat} {lc : Array Value} {pa : Option Addr} {ca G : Nat} {ps : Option Addr} {ns cps : Nat} {sf st : Nat → Nat} {step : Nat} {cs : Array Value} {hs : Nat → List Nat} {ix : Nat → Nat} {F0 F1 : Nat} {rc : Nat → Array Value} {lv : Nat → Nat → Value} {ls : Nat → Nat → List Nat} {rem : Nat → Bool} {gc : Array Value} {wr : World}

/-- Where nothing of it turns. -/
theorem Sc.still (D : Sc w0 K B n m A d S LB RB lc pa ca G ps ns cps sf st step cs hs ix F0 F1 rc lv ls rem gc wr) {w' : World} (hf : Frm (fun _ => False) wr w') : Sc w0 K B n m A d S LB RB lc pa ca G ps ns cps sf st step cs hs ix F0 F1 rc lv ls rem gc w' :=
  { D with
    sim := D.sim.frm hf (fun _ h => h.elim) id id
    g := hf.blk D.g id
    all := hf.owns D.all (fun _ _ => id)
    mems := D.mems.frm rfl hf (fun _ _ _ => id)
    sch := fun h => by
      obtain ⟨sb, sc, h1, h2, h3, h4⟩ := D.sch h
      exact ⟨sb, sc, h1, h2, hf.blk h3 id, h4⟩
    frm := D.frm.trans hf (fun _ _ h => h.elim) }

theorem Sc.hall (D : Sc w0 K B n m A d S LB RB lc pa ca G ps ns cps sf st step cs hs ix F0 F1 rc lv ls rem gc wr) : ∀ j, j < m → ∃ ab, pa = some ⟨ab, 0, none⟩ ∧ wr.cell? ⟨ab, j, none⟩ = some (.pointer (some ⟨A j, 0, none⟩)) := fun j hj => by
  rcases D.all.2 with ⟨_, h⟩ | ⟨g, cap, cur, h, _⟩
  · omega
  · injection h with h1 _ _
    refine ⟨g, h1, ?_⟩
    have := D.all.cells (g := g) (by rw [h1]; rfl) j (ptr A j) (by rw [List.getElem?_map, List.getElem?_range hj]; rfl)
    rw [add_lit, Nat.zero_add] at this
    exact this

theorem Sc.next (D : Sc w0 K B n m A d S LB RB lc pa ca G ps ns cps sf st step cs hs ix F0 F1 rc lv ls rem gc wr) (hKG : K G) (hG0 : G ≠ 0) (hkA : ∀ q, (Value.slice pa m ca).ownBlock = some q → K q) (hk0 : ∀ q, q < w0.heap.size → K q) (hG : w0.heap.size ≤ G) {x step' : Nat} (hx : x < m) {w1 w2 : World} (ht : Took K wr B n m A d S cs LB RB lc 0 rem x step' w1) (hf : Frm (fun j => j = G) w1 w2) (hg : Blk w2 G (gc.setIfInBounds x (.bool true)) 4) :
    ScX w0 K B n m A d S LB RB lc pa ca G ps ns cps sf st w2 := by
  obtain ⟨cs', hs', ix', F0', F1', rc', lv', ls', g1, g2, g4, g3⟩ := ht
  have hxz : x < gc.size := (Array.getElem?_eq_some_iff.1 (D.gv x hx)).1
  have hg1 := g3.blk D.g (fun h => h hKG)
  have hall1 := g3.owns D.all (fun q hq h => h (hkA q hq))
  refine ⟨step', cs', hs', ix', F0', F1', rc', lv', ls', without rem x, gc.setIfInBounds x (.bool true), {
    sim := g1.frm hf (fun _ h => h ▸ hKG) (fun h => blk_ne g1.l.lb hg1 (by decide) h) (fun h => hG0 h.symm)
    c136 := (g2 136 (by omega) (by decide)).trans D.c136
    c137 := g4
    c143 := (g2 143 (by omega) (by decide)).trans D.c143
    c144 := (g2 144 (by omega) (by decide)).trans D.c144
    g := hg
    gv := fun j hj => ?_
    all := hf.owns hall1 (fun q hq e => owns_blk hall1 hg1 (by decide) (by rw [← e]; exact hq))
    mems := ?_
    sch := fun h => ?_
    frm := (D.frm.trans g3 (fun j hj h => (h (hk0 j hj)).elim)).trans hf (fun j _ e => by omega) }⟩
  · by_cases e : j = x
    · subst e
      rw [Array.getElem?_setIfInBounds_self_of_lt hxz]
      simp [without]
    · rw [Array.getElem?_setIfInBounds_ne (Ne.symm e), D.gv j hj]
      simp [without, e]
  · have h1 := D.mems.frm (cs' := cs') (g2 0 (by omega) (by decide)) g3 (fun k _ hk h => h hk)
    obtain ⟨MB, mc, NB, nc, m0, m1, m2, m3, m4, m5, m6⟩ := h1
    refine ⟨MB, mc, NB, nc, m0, m1, hf.blk m2 (blk_ne m2 hg1 (by decide)), m3, hf.blk m4 (blk_ne m4 hg1 (by decide)), fun i hi => ?_, m6⟩
    obtain ⟨q, cm, r1, r2, r3, r4⟩ := m5 i hi
    exact ⟨q, cm, r1, r2, hf.blk r3 (blk_ne r3 hg1 (by decide)), r4⟩
  · obtain ⟨sb, sc, h1, h2, h3, h4⟩ := D.sch h
    have h3' := g3.blk h3 (fun h => h h2)
    exact ⟨sb, sc, h1, h2, hf.blk h3' (blk_ne h3' hg1 (by decide)), h4⟩
end
end Go.Proofs.YbulkaryoFmt
