/-
  THE CONTRACTS OF HelloReply AND LegacyHelloReply: a fresh slice that holds the reply's own entries and the limits behind them.
-/
import Derived.Test.YbulkarxmParts
namespace Go.Proofs.Ybulkarxm
open Go.RowKit
def helloKey : ByteArray := ⟨#[105, 115, 87, 114, 105, 116, 97, 98, 108, 101, 80, 114, 105, 109, 97, 114, 121]⟩
theorem third (w : World) (o1 o2 : Obj) (xs : Array Value) (t : TypeId) : (((w.alloc o1).alloc o2).alloc (.cells xs t)).heap[w.heap.size + 1 + 1]? = some (.cells xs t) := by
  have h := heap_new ((w.alloc o1).alloc o2) (.cells xs t)
  rw [size_new, size_new] at h
  exact h
theorem cell_of {w : World} {b : Nat} {xs : Array Value} {t : TypeId} (h : w.heap[b]? = some (.cells xs t)) (o : Nat) : w.cell? ⟨b, o, none⟩ = xs[o]? := by simp [World.cell?, h]
def legacyKey : ByteArray := ⟨#[105, 115, 109, 97, 115, 116, 101, 114]⟩
def helloOkKey : ByteArray := ⟨#[104, 101, 108, 108, 111, 79, 107]⟩
def legacy2 : List Value := [.string legacyKey, .iface 31 (.bool true), .string helloOkKey, .iface 31 (.bool true)]
def hello1 : List Value := [.string helloKey, .iface 31 (.bool true)]
theorem app_at (A B Z : Array Value) (j : Nat) (h : j < (A.toList ++ B.toList).length) : (A ++ (B ++ Z))[j]? = (A.toList ++ B.toList)[j]? := by
  rw [← Array.append_assoc, Array.getElem?_append_left (by simpa using h), ← Array.getElem?_toList, Array.toList_append]
theorem nextcap6 : Builtin.nextslicecap 6 1 = 6 := by kernel_rfl
theorem nextcap7 : Builtin.nextslicecap 7 2 = 7 := by kernel_rfl
set_option maxHeartbeats 400000 in
theorem hello (w : World) :
    Calls Yba.prog 9 #[] w fun e w' => ∃ g cap, e = .returned (.slice (some ⟨g, 0, none⟩) 6 cap) ∧ 6 ≤ cap ∧ cap ≤ maxLen ∧
      w'.cell? ⟨g, 0, none⟩ = some (.string helloKey) ∧ w'.cell? ⟨g, 1, none⟩ = some (.iface 31 (.bool true)) ∧ HasLim w' g 2 ∧ Grown w w' := by
  have h1 := bytes30
  have h2 := nextcap6
  have hc := grownCap_ge w 6 1 30
  have hm := grownCap_le_maxLen w 6 1 30 (by unfold maxLen; omega)
  go_enter Yba.func9, Yba.ntmps9
  go_wp2_with fail
  refine (limits_out _).mono ?_
  rintro e w1 ⟨rfl, rfl⟩
  go_wp2
  go_ret
  have hh := third w
  refine ⟨w.heap.size + 1 + 1, _, rfl, hc, hm, (cell_of (hh _ _ _ _) 0).trans (app_at _ _ _ 0 (by decide)), (cell_of (hh _ _ _ _) 1).trans (app_at _ _ _ 1 (by decide)), HasLim.drew ⟨_, _, hh _ _ _ _, ?_⟩, ((((Grown.refl w).alloc _ _).alloc _ _).alloc _ _).drew⟩
  intro j hj
  rw [app_at _ _ _ _ (by simp; omega)]
  exact List.getElem?_append_right (l₁ := hello1) (l₂ := lim) (i := 2 + j) (by simp [hello1]) |>.trans (by simp [hello1])

set_option maxHeartbeats 400000 in
theorem legacy (w : World) :
    Calls Yba.prog 10 #[] w fun e w' => ∃ g cap, e = .returned (.slice (some ⟨g, 0, none⟩) 7 cap) ∧ 7 ≤ cap ∧ cap ≤ maxLen ∧
      w'.cell? ⟨g, 0, none⟩ = some (.string legacyKey) ∧ w'.cell? ⟨g, 1, none⟩ = some (.iface 31 (.bool true)) ∧
      w'.cell? ⟨g, 2, none⟩ = some (.string helloOkKey) ∧ w'.cell? ⟨g, 3, none⟩ = some (.iface 31 (.bool true)) ∧ HasLim w' g 4 ∧ Grown w w' := by
  have h1 := bytes30
  have h2 := nextcap7
  have hc := grownCap_ge w 7 2 30
  have hm := grownCap_le_maxLen w 7 2 30 (by unfold maxLen; omega)
  go_enter Yba.func10, Yba.ntmps10
  go_wp2_with fail
  refine (limits_out _).mono ?_
  rintro e w1 ⟨rfl, rfl⟩
  go_wp2
  go_ret
  have hh := third w
  refine ⟨w.heap.size + 1 + 1, _, rfl, hc, hm, (cell_of (hh _ _ _ _) 0).trans (app_at _ _ _ 0 (by decide)), (cell_of (hh _ _ _ _) 1).trans (app_at _ _ _ 1 (by decide)), (cell_of (hh _ _ _ _) 2).trans (app_at _ _ _ 2 (by decide)), (cell_of (hh _ _ _ _) 3).trans (app_at _ _ _ 3 (by decide)), HasLim.drew ⟨_, _, hh _ _ _ _, ?_⟩, ((((Grown.refl w).alloc _ _).alloc _ _).alloc _ _).drew⟩
  intro j hj
  rw [app_at _ _ _ _ (by simp; omega)]
  exact List.getElem?_append_right (l₁ := legacy2) (l₂ := lim) (i := 4 + j) (by simp [legacy2]) |>.trans (by simp [legacy2])

end Go.Proofs.Ybulkarxm
