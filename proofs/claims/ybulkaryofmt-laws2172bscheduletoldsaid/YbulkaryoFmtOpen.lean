/-
  The bytes and the Booleans that came in, opened; the table of the library, off what the row lays.
-/
import Derived.Test.YbulkaryoFmtBlt
import Derived.OpenShut
import Derived.SizedLaws
import Derived.ChangeOld
import Derived.ProofKit
import Derived.Lib.LaidTab
namespace Go.Proofs.YbulkaryoFmt
open Go.ChangeShapes Go.WideShapes Go.ChangeAt Go.RowKit

theorem lt_of_cell {w : World} {a : Addr} {v : Value} (h : w.cell? a = some v) : a.block < w.heap.size := by
  rcases Nat.lt_or_ge a.block w.heap.size with h1 | h1
  · exact h1
  · have : w.heap[a.block]? = none := by simp [h1]
    simp [World.cell?, this] at h

theorem list_of_each {α : Type} {p : Nat → α → Prop} : ∀ n : Nat, (∀ i, i < n → ∃ x, p i x) → ∃ l : List α, l.length = n ∧ ∀ i x, l[i]? = some x → p i x
  | 0, _ => ⟨[], rfl, fun i x h => by simp at h⟩
  | n + 1, h => by
    obtain ⟨l, hl, hp⟩ := list_of_each n (fun i hi => h i (by omega))
    obtain ⟨x, hx⟩ := h n (by omega)
    refine ⟨l ++ [x], by simp [hl], fun i y hy => ?_⟩
    rcases Nat.lt_trichotomy i n with h1 | h1 | h1
    · rw [List.getElem?_append_left (by omega)] at hy
      exact hp i y hy
    · subst h1
      rw [List.getElem?_append_right (by omega), hl] at hy
      simp at hy
      subst hy
      exact hx
    · rw [List.getElem?_eq_none (by simp; omega)] at hy
      cases hy

/-- The bytes that came in. -/
theorem open_bytes {H : Type} {enc : TypeId × Value → H} {W : World} {v : Value} {d : DataW H} {ps : List MemPlace} (hv : v.cells.toList = [v])
    (h : DataW.Trod enc Ybaf.prog W 0 (fun _ => true) true 22 v d ps) (hw : ∀ n ∈ d.weights Ybaf.prog 22, n ≤ reachBytes) :
    ∃ (len : Nat) (xs : Nat → Nat), ByteArg W W.heap.size v len xs ∧ len ≤ 140737488355328 := by
  obtain ⟨fuel, hf⟩ := h
  rw [hv] at hf
  rcases open_ints Ybaf.underlying22 Ybaf.underlying5 (by kernel_rfl) hf with ⟨hcs, _⟩ | ⟨a, len, cap, zs, hcs, _, hl, hm, hz, hx, hcell, hwz⟩
  · simp at hcs
    subst hcs
    exact ⟨0, fun _ => 0, ⟨none, 0, rfl, fun h => absurd h (Nat.lt_irrefl _)⟩, by omega⟩
  · simp at hcs
    subst hcs
    simp at hz
    simp only [Prod.mk.injEq] at hx
    obtain ⟨rfl, _⟩ := hx
    have hreach : len ≤ reachBytes := by
      have := hw ((zs.take len).length + (zs.drop len).length) (by
        simp only [DataW.weights, Ybaf.underlying22, lits, List.length_map]
        rw [show Ybaf.prog.bytesOf 5 = 1 from by kernel_rfl, Nat.mul_one]
        exact List.mem_cons_self)
      simp at this
      omega
    have h47 := reachBytes_lt
    refine ⟨len, fun i => (zs.getD i 0).toNat, ⟨some a, cap, rfl, fun h0 => ?_⟩, by omega⟩
    obtain ⟨b, off, rfl, hc⟩ := ints_at hcell (by omega)
    refine ⟨b, off, rfl, lt_of_cell (a := ⟨b, off + 0, none⟩) (hc 0 (by omega)), fun i hi => ?_⟩
    have hbd := range_u8 hwz i
    have e : zs[i]?.getD 0 = zs.getD i 0 := by simp [List.getD]
    rw [e] at hbd
    refine ⟨?_, by omega⟩
    rw [hc i (by omega), Int.toNat_of_nonneg hbd.1]

/-- The slice of Booleans that came in. -/
theorem open_bools {H : Type} {enc : TypeId × Value → H} {W : World} {v : Value} {d : DataW H} {ps : List MemPlace} (hv : v.cells.toList = [v])
    (h : DataW.Trod enc Ybaf.prog W 0 (fun _ => true) true 27 v d ps) (hw : ∀ n ∈ d.weights Ybaf.prog 27, n ≤ reachBytes) :
    ∃ (len : Nat) (xs : Nat → Bool), BoolArg W W.heap.size v len xs ∧ len ≤ 140737488355328 := by
  obtain ⟨fuel, hf⟩ := h
  rw [hv] at hf
  rcases DataW.trod_slice Ybaf.underlying27 hf with ⟨hcs, _⟩ | ⟨a, len, cap, elems, rest, n, rfl, hcs, hx, _, hl, hm, hlen, hel, _, _⟩
  · simp at hcs
    subst hcs
    exact ⟨0, fun _ => false, ⟨none, 0, rfl, fun h => absurd h (Nat.lt_irrefl _)⟩, by omega⟩
  · simp at hcs
    subst hcs
    simp only [Prod.mk.injEq] at hx
    obtain ⟨rfl, _⟩ := hx
    simp only [DataW.weights, Ybaf.underlying27, List.length_map] at hw
    have h47 := reachBytes_lt
    have hreach : len ≤ reachBytes := by
      have := hw _ List.mem_cons_self
      rw [show Ybaf.prog.bytesOf 4 = 1 from by kernel_rfl] at this
      omega
    rw [show Ybaf.prog.cellsOf 4 = 1 from by kernel_rfl] at hel
    obtain ⟨l, hll, hp⟩ := list_of_each (p := fun i (x : Bool) => W.cell? (a.add i) = some (.bool x)) len (fun i hi => by
      have hy : elems[i]? = some (elems[i]'(by omega)) := List.getElem?_eq_getElem (by omega)
      have hi' := (hel i hi).trans hy
      rw [Nat.mul_one, Option.bind_eq_some_iff] at hi'
      obtain ⟨cs', hcs, hy'⟩ := hi'
      obtain ⟨x, rfl, _⟩ := DataW.trod_bool Ybaf.underlying4 hy'
      exact ⟨x, cell_of_cells?_one hcs⟩)
    refine ⟨len, fun i => l.getD i false, ⟨some a, cap, rfl, fun h0 => ?_⟩, by omega⟩
    have hg : ∀ i, i < len → W.cell? (a.add i) = some (.bool (l.getD i false)) := fun i hi => by
      have := hp i (l[i]'(by omega)) (List.getElem?_eq_getElem (by omega))
      rw [this]
      simp [List.getD, List.getElem?_eq_getElem (show i < l.length by omega)]
    obtain ⟨b, off, spot⟩ := a
    have h00 := hg 0 h0
    have hspot : spot = none := by simpa [Addr.add] using World.cell?_spot h00
    subst hspot
    simp only [add_lit] at hg
    exact ⟨b, off, rfl, lt_of_cell (hg 0 h0), hg⟩

theorem tab_eq : (Rows.laid_math_bits_deBruijn64tab : DataW Unit) = Lib.tabData .u8 (Lib.deBruijn64tab.map Int.ofNat) := rfl
theorem tab_at : ∀ j, j < 64 → (Lib.deBruijn64tab.map Int.ofNat).getD j 0 = ((Lib.deBruijn64tab.getD j 0 : Nat) : Int) := by decide

/-- The library's table, off what the row lays. -/
theorem tabAt_of_laid {W : World} {nm : String} (hnm : Ybaf.prog.globalNamed nm = some 0) (h : laidMetH Ybaf.prog [(nm, Rows.laid_math_bits_deBruijn64tab)] W) : TabAt W := by
  have h' : laidMet Ybaf.prog [(nm, Lib.tabData .u8 (Lib.deBruijn64tab.map Int.ofNat))] W := h
  have ht := Lib.tabIs_of_head (g := 0) (t := 94) (e := 5) (n := 64) hnm (by kernel_rfl) Ybaf.underlying94 Ybaf.underlying5 (by kernel_rfl) (by kernel_rfl) h'
  intro j hj
  rw [ht.cell (g := 0) hnm j (by rw [List.length_map]; exact hj), tab_at j hj]
end Go.Proofs.YbulkaryoFmt
