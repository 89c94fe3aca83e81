/-
  The Booleans and the reports that came in, opened.
-/
import Derived.Test.YbulkaryoLead
import Derived.Test.YbulkaryoOpen
namespace Go.Proofs.Ybulkaryo
open Go.ChangeShapes Go.WideShapes Go.ChangeAt Go.RowKit

/-- The slice of Booleans that came in. -/
theorem open_bools {H : Type} {enc : TypeId × Value → H} {W : World} {v : Value} {d : DataW H} {ps : List MemPlace} (hv : v.cells.toList = [v])
    (h : DataW.Trod enc Yba.prog W 0 (fun _ => true) true 32 v d ps) (hw : ∀ n ∈ d.weights Yba.prog 32, n ≤ reachBytes) :
    ∃ (len : Nat) (ga : Nat → Bool), GArg W W.heap.size v len ga ∧ len ≤ 140737488355328 := by
  obtain ⟨fuel, hf⟩ := h
  rw [hv] at hf
  rcases DataW.trod_slice Yba.underlying32 hf with ⟨hcs, _⟩ | ⟨a, len, cap, elems, rest, n, rfl, hcs, hx, _, hl, hm, hlen, hel, _, _⟩
  · simp at hcs
    subst hcs
    exact ⟨0, fun _ => false, ⟨none, 0, rfl, fun h => absurd h (Nat.lt_irrefl _)⟩, by omega⟩
  · simp at hcs
    subst hcs
    simp only [Prod.mk.injEq] at hx
    obtain ⟨rfl, _⟩ := hx
    simp only [DataW.weights, Yba.underlying32, List.length_map] at hw
    have h47 := reachBytes_lt
    have hreach : len ≤ reachBytes := by
      have := hw _ List.mem_cons_self
      rw [show Yba.prog.bytesOf 4 = 1 from by kernel_rfl] at this
      omega
    rw [show Yba.prog.cellsOf 4 = 1 from by kernel_rfl] at hel
    obtain ⟨l, hll, hp⟩ := list_of_each (p := fun i (x : Bool) => W.cell? (a.add i) = some (.bool x)) len (fun i hi => by
      have hy : elems[i]? = some (elems[i]'(by omega)) := List.getElem?_eq_getElem (by omega)
      have hi' := (hel i hi).trans hy
      rw [Nat.mul_one, Option.bind_eq_some_iff] at hi'
      obtain ⟨cs', hcs, hy'⟩ := hi'
      obtain ⟨x, rfl, _⟩ := DataW.trod_bool Yba.underlying4 hy'
      exact ⟨x, cell_of_cells?_one hcs⟩)
    refine ⟨len, fun i => l.getD i false, ⟨some a, cap, rfl, fun h0 => ?_⟩, by omega⟩
    have hg : ∀ i, i < len → W.cell? (a.add i) = some (.bool (l.getD i false)) := fun i hi => by
      have := hp i (l[i]'(by omega)) (List.getElem?_eq_getElem (by omega))
      rw [this]
      simp [List.getD, List.getElem?_eq_getElem (show i < l.length by omega)]
    obtain ⟨b, off, spot⟩ := a
    have h00 := hg 0 h0
    have hspot : spot = none := by simpa [Addr.add] using World.cell?_spot h00
    subst hspot
    simp only [add_lit] at hg
    exact ⟨b, off, rfl, lt_of_cell (hg 0 h0), hg⟩

/-- A report that came in. -/
theorem open_rep {H : Type} {enc : TypeId × Value → H} {W : World} {n : Nat} {a : Addr} {x : DataW H × List MemPlace}
    (h : (W.cells? 0 a (Yba.prog.cellsOf 60)).bind (DataW.trod enc Yba.prog W 0 (fun _ => true) true n 60) = some x) :
    ∃ e : RepA, (W.cell? (a.add 0) = some (.bool e.md) ∧ W.cell? (a.add 1) = some (.bool e.ot) ∧ W.cell? (a.add 2) = some (.int .u8 e.ld) ∧ W.cell? (a.add 3) = some (.int .u8 e.pl)) ∧ e.ld < 256 ∧ e.pl < 256 := by
  rw [show Yba.prog.cellsOf 60 = 4 from by kernel_rfl, Option.bind_eq_some_iff] at h
  obtain ⟨cs, hcs, ht⟩ := h
  obtain ⟨_, hlen, hcell⟩ := World.cells?_some hcs
  obtain ⟨xs, m, rfl, rfl, _, hxl, hf⟩ := DataW.trod_struct Yba.underlying60 ht
  simp at hxl
  obtain ⟨c0, c1, c2, c3, rfl⟩ := list_four hlen
  obtain ⟨y0, y1, y2, y3, rfl⟩ := list_four hxl
  have f0 : DataW.trod enc Yba.prog W 0 (fun _ => true) true m 4 (([c0, c1, c2, c3].drop 0).take (Yba.prog.cellsOf 4)) = some y0 := hf 0 _ rfl
  have f1 : DataW.trod enc Yba.prog W 0 (fun _ => true) true m 4 (([c0, c1, c2, c3].drop 1).take (Yba.prog.cellsOf 4)) = some y1 := hf 1 _ rfl
  have f2 : DataW.trod enc Yba.prog W 0 (fun _ => true) true m 5 (([c0, c1, c2, c3].drop 2).take (Yba.prog.cellsOf 5)) = some y2 := hf 2 _ rfl
  have f3 : DataW.trod enc Yba.prog W 0 (fun _ => true) true m 5 (([c0, c1, c2, c3].drop 3).take (Yba.prog.cellsOf 5)) = some y3 := hf 3 _ rfl
  rw [show Yba.prog.cellsOf 4 = 1 from by kernel_rfl] at f0 f1
  rw [show Yba.prog.cellsOf 5 = 1 from by kernel_rfl] at f2 f3
  obtain ⟨b0, e0, rfl⟩ := DataW.trod_bool Yba.underlying4 f0
  obtain ⟨b1, e1, rfl⟩ := DataW.trod_bool Yba.underlying4 f1
  obtain ⟨n2, e2, rfl, w2⟩ := DataW.trod_int Yba.underlying5 f2
  obtain ⟨n3, e3, rfl, w3⟩ := DataW.trod_int Yba.underlying5 f3
  simp at e0 e1 e2 e3
  subst e0; subst e1; subst e2; subst e3
  have k2 := bounds_u8 w2
  have k3 := bounds_u8 w3
  refine ⟨⟨b0, b1, n2.toNat, n3.toNat⟩, ⟨hcell 0 (by omega), hcell 1 (by omega), ?_, ?_⟩, by show n2.toNat < _; omega, by show n3.toNat < _; omega⟩
  · show W.cell? (a.add 2) = some (.int .u8 (n2.toNat : Int))
    rw [Int.toNat_of_nonneg k2.1]
    exact hcell 2 (by omega)
  · show W.cell? (a.add 3) = some (.int .u8 (n3.toNat : Int))
    rw [Int.toNat_of_nonneg k3.1]
    exact hcell 3 (by omega)

/-- The slice of reports that came in. -/
theorem open_reps {H : Type} {enc : TypeId × Value → H} {W : World} {v : Value} {d : DataW H} {ps : List MemPlace} (hv : v.cells.toList = [v])
    (h : DataW.Trod enc Yba.prog W 0 (fun _ => true) true 58 v d ps) (hw : ∀ n ∈ d.weights Yba.prog 58, n ≤ reachBytes) :
    ∃ (len : Nat) (ra : Nat → RepA), RArg W W.heap.size v len ra ∧ len ≤ 140737488355328 ∧ ∀ i, i < len → (ra i).ld < 256 ∧ (ra i).pl < 256 := by
  obtain ⟨fuel, hf⟩ := h
  rw [hv] at hf
  rcases DataW.trod_slice Yba.underlying58 hf with ⟨hcs, _⟩ | ⟨a, len, cap, elems, rest, n, rfl, hcs, hx, _, hl, hm, hlen, hel, _, _⟩
  · simp at hcs
    subst hcs
    exact ⟨0, fun _ => ⟨false, false, 0, 0⟩, ⟨none, 0, rfl, fun h => absurd h (Nat.lt_irrefl _)⟩, by omega, fun i hi => by omega⟩
  · simp at hcs
    subst hcs
    simp only [Prod.mk.injEq] at hx
    obtain ⟨rfl, _⟩ := hx
    simp only [DataW.weights, Yba.underlying58, List.length_map] at hw
    have h47 := reachBytes_lt
    have hreach : len ≤ reachBytes := by
      have := hw _ List.mem_cons_self
      rw [show Yba.prog.bytesOf 60 = 4 from by kernel_rfl] at this
      omega
    obtain ⟨l, hll, hp⟩ := list_of_each (p := fun i (e : RepA) => (W.cell? ((a.add (i * 4)).add 0) = some (.bool e.md) ∧ W.cell? ((a.add (i * 4)).add 1) = some (.bool e.ot) ∧ W.cell? ((a.add (i * 4)).add 2) = some (.int .u8 e.ld) ∧ W.cell? ((a.add (i * 4)).add 3) = some (.int .u8 e.pl)) ∧ e.ld < 256 ∧ e.pl < 256) len (fun i hi => by
      have hy : elems[i]? = some (elems[i]'(by omega)) := List.getElem?_eq_getElem (by omega)
      have hi' := (hel i hi).trans hy
      obtain ⟨e, h1⟩ := open_rep hi'
      rw [show Yba.prog.cellsOf 60 = 4 from by kernel_rfl] at h1
      exact ⟨e, h1⟩)
    have hd : ∀ i, i < len → l[i]? = some (l.getD i ⟨false, false, 0, 0⟩) := fun i hi => by
      simp [List.getD, List.getElem?_eq_getElem (show i < l.length by omega)]
    refine ⟨len, fun i => l.getD i ⟨false, false, 0, 0⟩, ⟨some a, cap, rfl, fun h0 => ?_⟩, by omega, fun i hi => (hp i _ (hd i hi)).2⟩
    obtain ⟨b, off, spot⟩ := a
    have h00 := (hp 0 _ (hd 0 h0)).1.1
    have hspot : spot = none := by simpa [Addr.add] using World.cell?_spot h00
    subst hspot
    simp only [add_lit] at hp h00
    exact ⟨b, off, rfl, lt_of_cell h00, fun i hi => (hp i _ (hd i hi)).1⟩
end Go.Proofs.Ybulkaryo
