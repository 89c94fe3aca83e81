/-
  SMALL LAWS ON BLOCKS OF MEMORY, for the walk of LawS2192CRefuse: a block of cells that is not frozen, a channel's block, a row of cells told by a function.
-/
import Derived.Test.YbulkasjiDoorRows
import Derived.WalkKit
import Derived.WalkSpells
import Derived.WalkLawsBesides
import Derived.BigQuiet
import Derived.Conc.LoneSelect
import Derived.Deep.OwnRows
namespace Go.Proofs.YbulkasjiDoor
open Go.RowKit

/-- Block b holds the cells cs, of type t, none of them frozen. -/
def Blk (w : World) (b : Nat) (cs : Array Value) (t : TypeId) : Prop := w.heap[b]? = some (.cells cs t (0, 0))

section
variable {w : World} {b : Nat} {cs : Array Value} {t : TypeId}

theorem Blk.lt (h : Blk w b cs t) : b < w.heap.size := (Array.getElem?_eq_some_iff.1 h).1
theorem Blk.cell (h : Blk w b cs t) (o : Nat) : w.cell? ⟨b, o, none⟩ = cs[o]? := by
  unfold Blk at h
  simp [World.cell?, h]
theorem Blk.frozen (h : Blk w b cs t) (o : Nat) : w.frozen? ⟨b, o, none⟩ = false := by
  unfold Blk at h
  simp [World.frozen?, h]
theorem heap_old (w : World) (x : Obj) {i : Nat} {o : Obj} (h : w.heap[i]? = some o) : (w.alloc x).heap[i]? = some o := by
  rw [Below.heap_alloc w x i (Array.getElem?_eq_some_iff.1 h).1, h]
theorem heap_new (w : World) (x : Obj) : (w.alloc x).heap[w.heap.size]? = some x := (MapKept.heap_alloc w x).1
theorem size_new (w : World) (x : Obj) : (w.alloc x).heap.size = w.heap.size + 1 := by simp
theorem Blk.alloc (h : Blk w b cs t) (x : Obj) : Blk (w.alloc x) b cs t := heap_old w x h
theorem Blk.new (w : World) (cs : Array Value) (t : TypeId) : Blk (w.alloc (.cells cs t)) w.heap.size cs t := heap_new w _
theorem Blk.drew (h : Blk w b cs t) : Blk w.drew b cs t := h
theorem Blk.drewN (h : Blk w b cs t) (n : Nat) : Blk (w.drewN n) b cs t := h
theorem heap_other (w : World) (a : Addr) (v : Value) {i : Nat} (h : i ≠ a.block) : (w.setCell a v).heap[i]? = w.heap[i]? := Below.heap_setCell w a v i h
theorem Blk.other (h : Blk w b cs t) (a : Addr) (v : Value) (hne : b ≠ a.block) : Blk (w.setCell a v) b cs t := (heap_other w a v hne).trans h
theorem Blk.same (h : Blk w b cs t) (o : Nat) (v : Value) : Blk (w.setCell ⟨b, o, none⟩ v) b (cs.setIfInBounds o v) t := by
  unfold Blk at h ⊢
  simp [World.setCell, Array.getElem?_modify, h]
end

/-- A row of n cells told by a function of the place. -/
def row (f : Nat → Value) (n : Nat) : Array Value := ((List.range n).map f).toArray
theorem row_size (f : Nat → Value) (n : Nat) : (row f n).size = n := by simp [row]
theorem row_at (f : Nat → Value) (n i : Nat) (h : i < n) : (row f n)[i]? = some (f i) := by simp [row, h]
theorem row_set (f g : Nat → Value) (n i : Nat) (v : Value) (hv : g i = v) (hg : ∀ j, j ≠ i → g j = f j) : (row f n).setIfInBounds i v = row g n := by
  apply Array.ext
  · simp [row]
  · intro j h1 h2
    simp only [row, List.size_toArray, List.length_map, List.length_range, Array.size_setIfInBounds] at h1 h2
    by_cases e : i = j
    · subst e
      simp [row, hv]
    · simp [row, e, hg j (fun h => e h.symm)]
theorem row_congr (f g : Nat → Value) (n : Nat) (h : ∀ j, j < n → f j = g j) : row f n = row g n := by
  unfold row
  congr 1
  exact List.map_congr_left fun j hj => h j (List.mem_range.1 hj)
theorem made_row (z : Value) (n : Nat) : madeCells #[z] n = row (fun _ => z) n := by
  apply Array.ext
  · simp [madeCells, row]
  · intro j h1 h2
    simp [madeCells, row, Nat.mod_one]

end Go.Proofs.YbulkasjiDoor
