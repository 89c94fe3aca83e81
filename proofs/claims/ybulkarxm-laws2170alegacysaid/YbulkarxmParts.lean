/-
  THE PARTS OF THE THREE LAWS: what serverLimits, zzs2170aexpected and zzs2170asame do, as contracts.
-/
import Derived.Test.YbulkarxmRows
import Derived.WalkKit
import Derived.WalkSpells
import Derived.WalkLawsBesides
import Derived.BigQuiet
namespace Go.Proofs.Ybulkarxm
open Go.RowKit

/-- The five keys of the limits, and the five values. -/
def key : Nat → ByteArray
  | 0 => ⟨#[109, 97, 120, 87, 105, 114, 101, 86, 101, 114, 115, 105, 111, 110]⟩
  | 1 => ⟨#[109, 105, 110, 87, 105, 114, 101, 86, 101, 114, 115, 105, 111, 110]⟩
  | 2 => ⟨#[109, 97, 120, 66, 115, 111, 110, 79, 98, 106, 101, 99, 116, 83, 105, 122, 101]⟩
  | 3 => ⟨#[109, 97, 120, 77, 101, 115, 115, 97, 103, 101, 83, 105, 122, 101, 66, 121, 116, 101, 115]⟩
  | _ => ⟨#[111, 107]⟩
def val : Nat → Value
  | 0 => .iface 32 (.int .i32 21)
  | 1 => .iface 32 (.int .i32 0)
  | 2 => .iface 32 (.int .i32 16777216)
  | 3 => .iface 32 (.int .i32 48000000)
  | _ => .iface 34 (.float .f64 4607182418800017408)
/-- The ten cells of the limits. -/
def lim : List Value := [.string (key 0), val 0, .string (key 1), val 1, .string (key 2), val 2, .string (key 3), val 3, .string (key 4), val 4]
/-- The block that holds them. -/
def limObj : Obj := .cells lim.toArray 30

set_option maxHeartbeats 400000 in
theorem limits (w : World) :
    Calls Yba.prog 6 #[] w fun e w' => e = .returned (.slice (some ⟨w.heap.size, 0, none⟩) 5 5) ∧ w' = w.alloc limObj := by
  go_enter Yba.func6, Yba.ntmps6
  go_wp2
  go_ret
  exact ⟨rfl, rfl⟩

set_option maxHeartbeats 400000 in
theorem expected (w : World) :
    Calls Yba.prog 8 #[] w fun e w' => e = .returned (.slice (some ⟨w.heap.size, 0, none⟩) 5 5) ∧ w' = w.alloc limObj := by
  go_enter Yba.func8, Yba.ntmps8
  go_wp2
  go_ret
  exact ⟨rfl, rfl⟩

-- zzs2170asame answers true at two documents that hold the same cells, if the test for difference between a value and itself says false. It only reads.
set_option maxHeartbeats 400000 in
theorem same_ok (s : Nat → ByteArray) (v : Nat → Value) (a b oa ob n ca cb : Nat) (w : World) (hn : n ≤ 100)
    (ha : ∀ i, i < n → w.cell? ⟨a, oa + i * 2, none⟩ = some (.string (s i)))
    (hb : ∀ i, i < n → w.cell? ⟨b, ob + i * 2, none⟩ = some (.string (s i)))
    (ha1 : ∀ i, i < n → w.cell? ⟨a, oa + i * 2 + 1, none⟩ = some (v i))
    (hb1 : ∀ i, i < n → w.cell? ⟨b, ob + i * 2 + 1, none⟩ = some (v i))
    (hv : ∀ i, i < n → ∀ w, (binOp .neq 28 (v i) (v i)).run Yba.prog w = .ok (.bool false) w)
    (hg : ∀ i, i < n → ∀ x y w, (eqGuard .neq 28 x y (v i) (v i)).run Yba.prog w = .ok () w) :
    Calls Yba.prog 7 #[.slice (some ⟨a, oa, none⟩) n ca, .slice (some ⟨b, ob, none⟩) n cb] w fun e w' => e = .returned (.bool true) ∧ ∃ k, w' = w.drewN k := by
  go_enter Yba.func7, Yba.ntmps7
  go_wp2
  go_loopw [5] (fun i w' => ∃ k : Nat, k ≤ n ∧ i = .int .i64 k ∧ ∃ d, w' = w.drewN d) (fun i _ => n - (intOf i).toNat)
  case atStart => exact ⟨0, Nat.zero_le _, rfl, 0, rfl⟩
  case round =>
    obtain ⟨k, hk, rfl, d, rfl⟩ := hrel
    by_cases hlt : k < n
    · have h1 := ha k hlt
      have h2 := hb k hlt
      have h3 := ha1 k hlt
      have h4 := hb1 k hlt
      have h5 := hv k hlt
      have h6 := hg k hlt
      go_wp2
      go_quiet (fail)
      go_wp2
      go_roundw
      case rel => exact ⟨k + 1, by omega, by go_num, d + nq, rfl⟩
      case measure => simp [intOf]; omega
    · go_wp2
      go_ret
      exact ⟨rfl, d, rfl⟩

theorem val_ne : ∀ i, i < 5 → ∀ w, (binOp .neq 28 (val i) (val i)).run Yba.prog w = .ok (.bool false) w
  | 0, _ => fun w => by kernel_rfl
  | 1, _ => fun w => by kernel_rfl
  | 2, _ => fun w => by kernel_rfl
  | 3, _ => fun w => by kernel_rfl
  | 4, _ => fun w => by kernel_rfl
theorem val_guard : ∀ i, i < 5 → ∀ x y w, (eqGuard .neq 28 x y (val i) (val i)).run Yba.prog w = .ok () w
  | 0, _ => fun x y w => by kernel_rfl
  | 1, _ => fun x y w => by kernel_rfl
  | 2, _ => fun x y w => by kernel_rfl
  | 3, _ => fun x y w => by kernel_rfl
  | 4, _ => fun x y w => by kernel_rfl

/-- A block of cells that has just been laid: the limits lie in it from 'o' on. -/
theorem lim_at (o : Nat) (xs : List Value) (hx : ∀ j, j < 10 → xs[o + j]? = lim[j]?) (t : TypeId) (w : World) (b : Nat) (hb : w.heap[b]? = some (.cells xs.toArray t)) :
    (∀ i, i < 5 → w.cell? ⟨b, o + i * 2, none⟩ = some (.string (key i))) ∧ (∀ i, i < 5 → w.cell? ⟨b, o + i * 2 + 1, none⟩ = some (val i)) := by
  have hc : ∀ j, j < 10 → w.cell? ⟨b, o + j, none⟩ = lim[j]? := by
    intro j hj
    simp [World.cell?, hb, hx j hj]
  refine ⟨fun i hi => ?_, fun i hi => ?_⟩
  · rw [hc (i * 2) (by omega)]
    match i, hi with
    | 0, _ => rfl
    | 1, _ => rfl
    | 2, _ => rfl
    | 3, _ => rfl
    | 4, _ => rfl
  · rw [Nat.add_assoc, hc (i * 2 + 1) (by omega)]
    match i, hi with
    | 0, _ => rfl
    | 1, _ => rfl
    | 2, _ => rfl
    | 3, _ => rfl
    | 4, _ => rfl

/-- The limits lie in block b from o on: ten cells. -/
def HasLim (w : World) (b o : Nat) : Prop := ∃ xs t, w.heap[b]? = some (.cells xs t) ∧ ∀ j, j < 10 → xs[o + j]? = lim[j]?

/-! ### Blocks behind an allocation -/
theorem heap_new (w : World) (o : Obj) : (w.alloc o).heap[w.heap.size]? = some o := (MapKept.heap_alloc w o).1
theorem heap_old (w : World) (o : Obj) (i : Nat) (x : Obj) (h : w.heap[i]? = some x) : (w.alloc o).heap[i]? = some x := by
  have hl : i < w.heap.size := (Array.getElem?_eq_some_iff.1 h).1
  rw [(MapKept.heap_alloc w o).2 i hl, h]
theorem size_new (w : World) (o : Obj) : (w.alloc o).heap.size = w.heap.size + 1 := by simp

theorem HasLim.alloc {w : World} {b o : Nat} (h : HasLim w b o) (x : Obj) : HasLim (w.alloc x) b o := by
  obtain ⟨xs, t, h1, h2⟩ := h
  exact ⟨xs, t, heap_old _ _ _ _ h1, h2⟩
theorem HasLim.drewN {w : World} {b o : Nat} (h : HasLim w b o) (n : Nat) : HasLim (w.drewN n) b o := h
theorem HasLim.drew {w : World} {b o : Nat} (h : HasLim w b o) : HasLim w.drew b o := h
theorem HasLim.new (w : World) : HasLim (w.alloc limObj) w.heap.size 0 :=
  ⟨_, _, heap_new w _, fun j _ => by simp⟩
theorem HasLim.cells {w : World} {b o : Nat} (h : HasLim w b o) :
    (∀ i, i < 5 → w.cell? ⟨b, o + i * 2, none⟩ = some (.string (key i))) ∧ (∀ i, i < 5 → w.cell? ⟨b, o + i * 2 + 1, none⟩ = some (val i)) := by
  obtain ⟨xs, t, h1, h2⟩ := h
  exact lim_at o xs.toList (fun j hj => by rw [Array.getElem?_toList]; exact h2 j hj) t w b (by rw [Array.toArray_toList]; exact h1)

-- zzs2170asame at two places that hold the limits.
theorem same_lim (a b oa ob ca cb : Nat) (w : World) (ha : HasLim w a oa) (hb : HasLim w b ob) :
    Calls Yba.prog 7 #[.slice (some ⟨a, oa, none⟩) 5 ca, .slice (some ⟨b, ob, none⟩) 5 cb] w fun e w' => e = .returned (.bool true) ∧ ∃ k, w' = w.drewN k :=
  same_ok key val a b oa ob 5 ca cb w (by omega) ha.cells.1 hb.cells.1 ha.cells.2 hb.cells.2 val_ne val_guard

-- serverLimits, its cells written out: so the walk of an append reads them by itself.
theorem limits_out (w : World) :
    Calls Yba.prog 6 #[] w fun e w' => e = .returned (.slice (some ⟨w.heap.size, 0, none⟩) 5 5) ∧ w' = w.alloc (.cells #[.string (key 0), val 0, .string (key 1), val 1, .string (key 2), val 2, .string (key 3), val 3, .string (key 4), val 4] 30) := limits w
theorem bytes30 : Yba.t30.bytes = 32 := by kernel_rfl

end Go.Proofs.Ybulkarxm
