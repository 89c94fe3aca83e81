/-
  The simulation as it is made: nothing on its way.
-/
import Derived.Test.YbulkaryoFmtLinks
namespace Go.Proofs.YbulkaryoFmt
open Go.RowKit
def zero51 : Array Value := #[.slice none 0 0, .pointer none, .int .i64 0] ++ Array.replicate 128 (.slice none 0 0) ++ #[.int .u64 0, .int .u64 0, .int .i64 0, .slice none 0 0, .slice none 0 0, .slice none 0 0, .int .i64 0, .int .u64 0, .int .u64 0, .slice none 0 0, .slice none 0 0, .int .i64 0, .nilIface, .nilIface]
theorem zero51_size : zero51.size = 145 := by kernel_rfl
def simCells (n MB LB BB : Nat) : Array Value := ((zero51.setIfInBounds 0 (.slice (some ⟨MB, 0, none⟩) n n)).setIfInBounds 134 (.slice (some ⟨LB, 0, none⟩) n n)).setIfInBounds 135 (.slice (some ⟨BB, 0, none⟩) n n)
theorem zero51_slot (i : Nat) (hi : i < 128) : zero51[3 + i]? = some (.slice none 0 0) := by
  unfold zero51
  rw [Array.getElem?_append_left (by simp; omega), Array.getElem?_append_right (by simp)]
  simp [hi]
theorem simCells_get {n MB LB BB j : Nat} (h0 : j ≠ 0) (h1 : j ≠ 134) (h2 : j ≠ 135) : (simCells n MB LB BB)[j]? = zero51[j]? := by
  unfold simCells
  rw [Array.getElem?_setIfInBounds_ne (Ne.symm h2), Array.getElem?_setIfInBounds_ne (Ne.symm h1), Array.getElem?_setIfInBounds_ne (Ne.symm h0)]
theorem zero51_131 : zero51[131]? = some (.int .u64 0) := by kernel_rfl
theorem zero51_132 : zero51[132]? = some (.int .u64 0) := by kernel_rfl

/-- The queue with nothing in it. -/
theorem Queue.first {w : World} {B S n MB LB BB : Nat} (A : Nat → Nat) (d : Nat → Arr) (ix : Nat → Nat) (hS : Blk w S (simCells n MB LB BB) 51) (hB : S < B) : Queue w B 0 A d S (simCells n MB LB BB) (fun _ => []) ix 0 0 true where
  blk := hS
  low := hB
  arr := ⟨fun j hj => by omega, fun i j hi => by omega⟩
  slot := fun i hi => ⟨.slice none 0 0, by rw [simCells_get (by omega) (by omega) (by omega), zero51_slot i hi], World.ownsRow_nil _ _ _ _⟩
  apart := fun i j hi hj _ v u hv hu k hk => by
    rw [simCells_get (by omega) (by omega) (by omega), zero51_slot i hi] at hv
    rw [← Option.some.inj hv] at hk
    cases hk
  mem := fun i _ x hx => by cases hx
  pos := fun i _ p x hx => by cases hx
  len := fun _ _ => Nat.le_refl _
  w0 := by rw [simCells_get (by decide) (by decide) (by decide)]; exact zero51_131
  w1 := by rw [simCells_get (by decide) (by decide) (by decide)]; exact zero51_132
  l0 := by decide
  l1 := by decide
  bit0 := fun i _ => by simp
  bit1 := fun i _ => by simp
  heap := fun _ i _ p h0 hL => by
    have : p < 0 := hL
    omega

/-- The links with nothing on them. -/
theorem BL.first {w : World} {B n LB : Nat} {RB : Nat → Nat} {lc : Array Value} (A : Nat → Nat) (hL : Blk w LB lc 52) (hl : LB < B) (hrow : ∀ f, f < n → lc[f]? = some (.slice (some ⟨RB f, 0, none⟩) n n)) (hr : ∀ f, f < n → Blk w (RB f) (madeCells #[.slice none 0 0] n) 24 ∧ RB f < B) (hi : ∀ f g, f < n → g < n → RB f = RB g → f = g) :
    BL w B n A LB RB lc (fun _ => madeCells #[.slice none 0 0] n) (fun _ _ => .slice none 0 0) (fun _ _ => []) where
  lb := hL
  lbl := hl
  row := hrow
  rb := fun f hf => (hr f hf).1
  rbl := fun f hf => (hr f hf).2
  rinj := hi
  cell := fun f t _ ht => by simp [madeCells, ht, Nat.mod_one]
  own := fun _ _ _ _ => World.ownsRow_nil _ _ _ _
  apart := fun _ _ _ _ _ _ _ _ _ k hk => by cases hk
  short := fun _ _ _ _ => by simp
end Go.Proofs.YbulkaryoFmt
