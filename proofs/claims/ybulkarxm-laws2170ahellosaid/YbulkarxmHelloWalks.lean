/-
  THE WALKS OF LawS2170ALegacy (5) AND LawS2170AHello (4).
-/
import Derived.Test.YbulkarxmReplies
import Derived.Deep.RegionWith
namespace Go.Proofs.Ybulkarxm
open Go.RowKit
theorem b_ne : ∀ w, (binOp .neq 28 (.iface 31 (.bool true)) (.iface 31 (.bool true))).run Yba.prog w = .ok (.bool false) w := fun w => by kernel_rfl
theorem b_guard : ∀ x y w, (eqGuard .neq 28 x y (.iface 31 (.bool true)) (.iface 31 (.bool true))).run Yba.prog w = .ok () w := fun x y w => by kernel_rfl
theorem legacyKey_list : legacyKey.toList = [105, 115, 109, 97, 115, 116, 101, 114] := by decide +kernel
theorem helloKey_list : helloKey.toList = [105, 115, 87, 114, 105, 116, 97, 98, 108, 101, 80, 114, 105, 109, 97, 114, 121] := by decide +kernel
theorem grown_drewN {W w : World} (h : Grown W w) (n : Nat) : Grown W (w.drewN n) := h
theorem HasLim.next (w : World) (x : Obj) (n : Nat) : HasLim (((w.alloc x).drewN n).alloc limObj) (w.heap.size + 1) 0 := by
  have h := HasLim.new ((w.alloc x).drewN n)
  rw [World.heap_drewN, size_new] at h
  exact h
theorem helloOkKey_list : helloOkKey.toList = [104, 101, 108, 108, 111, 79, 107] := by decide +kernel
set_option maxHeartbeats 400000 in
theorem walk5 (w : World) :
    Calls Yba.prog 5 #[] w fun e w' => e = .returned (.bool true) ∧ Grown w w' := by
  have hb := b_ne
  have hbg := b_guard
  have k1 := legacyKey_list
  have k2 := helloOkKey_list
  go_enter Yba.func5, Yba.ntmps5
  go_wp2_with fail
  refine (legacy _).mono ?_
  rintro e w1 ⟨g, cap, rfl, hcap, hmax, c0, c1, c2, c3, hl, hgr⟩
  have hcap' : (7 : Int) ≤ (cap : Int) := by omega
  unfold maxLen at hmax
  go_wp2_with fail
  go_region_with (first
    | (go_at_call 8; refine (expected _).mono ?_; rintro e w2 ⟨rfl, rfl⟩)
    | (go_at_call 7; refine (same_lim _ _ _ _ _ _ _ ?_ ?_).mono ?_; exact (hl.alloc _).drew; exact (HasLim.new _).drew; rintro e w3 ⟨rfl, k, rfl⟩))
  all_goals
    go_wp2
    go_ret
    exact ⟨rfl, grown_drewN (hgr.alloc _ _) _⟩
set_option maxHeartbeats 400000 in
theorem walk4 (w : World) :
    Calls Yba.prog 4 #[] w fun e w' => e = .returned (.bool true) ∧ Grown w w' := by
  have hb := b_ne
  have hbg := b_guard
  have k1 := helloKey_list
  go_enter Yba.func4, Yba.ntmps4
  go_wp2_with fail
  refine (hello _).mono ?_
  rintro e w1 ⟨g, cap, rfl, hcap, hmax, c0, c1, hl, hgr⟩
  have hcap' : (6 : Int) ≤ (cap : Int) := by omega
  unfold maxLen at hmax
  go_wp2_with fail
  go_region_with (first
    | (go_at_call 6; refine (limits _).mono ?_; rintro e w2 ⟨rfl, rfl⟩)
    | (go_at_call 8; refine (expected _).mono ?_; rintro e w2 ⟨rfl, rfl⟩)
    | (go_at_call_of 7 (Value.slice (some ⟨w1.heap.size, 0, none⟩) 5 5); refine (same_lim _ _ _ _ _ _ _ ?_ ?_).mono ?_; exact (hl.alloc _).drew; exact (HasLim.new _).drew; rintro e w3 ⟨rfl, k, rfl⟩)
    | (go_at_call 7; refine (same_lim _ _ _ _ _ _ _ ?_ ?_).mono ?_; exact ((hl.alloc _).drewN _).alloc _; exact HasLim.next _ _ _; rintro e w4 ⟨rfl, k', rfl⟩))
  all_goals
    go_wp2
    go_ret
    exact ⟨rfl, grown_drewN ((grown_drewN (hgr.alloc _ _) (1 + k)).alloc _ _) k'⟩
end Go.Proofs.Ybulkarxm
