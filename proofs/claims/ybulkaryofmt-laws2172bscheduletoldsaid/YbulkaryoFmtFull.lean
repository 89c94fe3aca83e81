/-
  zzs2172blink; the bits that tell which slots hold an arrival: emptied, TrailingZeros64, firstFull.
-/
import Derived.Test.YbulkaryoFmtPush
import Derived.Lib.TrailingZeros
namespace Go.Proofs.YbulkaryoFmt
open Go.RowKit

theorem pair_nat (x y : Int) (n : Nat) (h : 0 ≤ x ∧ x < n ∧ 0 ≤ y ∧ y < n ∧ x ≠ y) : ∃ f t : Nat, Ending.returned (.tuple #[.int .i64 x, .int .i64 y]) = .returned (.tuple #[.int .i64 f, .int .i64 t]) ∧ f < n ∧ t < n ∧ f ≠ t := by
  obtain ⟨h1, h2, h3, h4, h5⟩ := h
  obtain ⟨f, rfl⟩ := Int.eq_ofNat_of_zero_le h1
  obtain ⟨t, rfl⟩ := Int.eq_ofNat_of_zero_le h3
  exact ⟨f, t, rfl, by omega, by omega, by omega⟩

set_option maxRecDepth 100000 in
set_option maxHeartbeats 1000000 in
theorem link_ok (n b : Nat) (h2 : 2 ≤ n) (h4 : n ≤ 4) (hb : b < 256) (w : World) : Calls Ybaf.prog 7 #[.int .i64 n, .int .u8 b] w fun en w' => (∃ f t : Nat, en = .returned (.tuple #[.int .i64 f, .int .i64 t]) ∧ f < n ∧ t < n ∧ f ≠ t) ∧ w' = w := by
  have hb' : (b : Int) < 256 := by omega
  have hb0 : (0 : Int) ≤ b := by omega
  obtain ⟨c, rfl⟩ : ∃ c, n = c + 1 := ⟨n - 1, by omega⟩
  have hc1 : 1 ≤ c := by omega
  have hc3 : c ≤ 3 := by omega
  obtain rfl | rfl | rfl : c = 1 ∨ c = 2 ∨ c = 3 := by omega
  all_goals
    clear h2 h4 hc1 hc3
    go_enter Ybaf.func7, Ybaf.ntmps7
    go_wp2_with fail
  all_goals
    go_ret2
    exact ⟨pair_nat _ _ _ (by omega), rfl⟩

/-! ### The words of bits -/
def clr (F k : Nat) : Nat := F &&& (2 ^ 64 - (2 ^ k + 1))
theorem clr_lt {F k : Nat} (hF : F < 18446744073709551616) : clr F k < 18446744073709551616 := by
  have : clr F k ≤ F := Nat.and_le_left
  omega
theorem clr_bit (F k i : Nat) (hk : k < 64) (hi : i < 64) : (clr F k).testBit i = (F.testBit i && !(i == k)) := by
  have h1 : (2 : Nat) ^ k < 2 ^ 64 := Nat.pow_lt_pow_right (by decide) hk
  unfold clr
  rw [Nat.testBit_and, Nat.testBit_two_pow_sub_succ h1, Nat.testBit_two_pow]
  have : decide (i < 64) = true := decide_eq_true hi
  rw [this]
  by_cases e : i = k
  · simp [e]
  · have e' : ¬ k = i := fun h => e h.symm
    simp [e, e']
theorem or_bit (F k i : Nat) : (F ||| 2 ^ k).testBit i = (F.testBit i || (i == k)) := by
  rw [Nat.testBit_or, Nat.testBit_two_pow]
  by_cases e : i = k
  · simp [e]
  · have e' : ¬ k = i := fun h => e h.symm
    simp [e, e']
theorem or_lt {F k : Nat} (hF : F < 18446744073709551616) (hk : k < 64) : F ||| 2 ^ k < 18446744073709551616 := by
  have h1 : (2 : Nat) ^ k < 2 ^ 64 := Nat.pow_lt_pow_right (by decide) hk
  exact Nat.or_lt_two_pow (n := 64) hF h1
theorem andNot_word (F k : Nat) (hF : F < 18446744073709551616) (hk : k < 64) : bits BinOp.andNot IntKind.u64 (F : Int) (IntKind.u64.wrap ((2 : Int) ^ k)) = ((clr F k : Nat) : Int) := by
  have h1 : (2 : Nat) ^ k < 2 ^ 64 := Nat.pow_lt_pow_right (by decide) hk
  have hx : clr F k < 18446744073709551616 := clr_lt hF
  have e1 : (BitVec.ofInt 64 (F : Int)).toNat = F := by
    rw [BitVec.ofInt_natCast, BitVec.toNat_ofNat]; exact Nat.mod_eq_of_lt (by omega)
  have e2 : (BitVec.ofInt 64 ((2 ^ k : Nat) : Int)).toNat = 2 ^ k := by
    rw [BitVec.ofInt_natCast, BitVec.toNat_ofNat]; exact Nat.mod_eq_of_lt h1
  rw [pow_wrap k hk]
  show IntKind.u64.wrap ((BitVec.ofInt 64 (F : Int) &&& ~~~ BitVec.ofInt 64 ((2 ^ k : Nat) : Int)).toNat : Int) = _
  rw [BitVec.toNat_and, BitVec.toNat_not, e1, e2, IntKind.wrap_u64]
  have e3 : F &&& (2 ^ 64 - 1 - 2 ^ k) = clr F k := by
    unfold clr
    congr 1
    omega
  rw [e3]
  omega

set_option maxRecDepth 100000 in
set_option maxHeartbeats 1000000 in
theorem emptied_ok (S : Nat) (cs : Array Value) (i len cap F : Nat) (p : Option Addr) (w : World) (hS : Blk w S cs 51) (hi : i < 128) (hv : cs[3 + i]? = some (.slice p len cap)) (hF : cs[131 + i / 64]? = some (.int .u64 F)) (hF64 : F < 18446744073709551616) :
    Calls Ybaf.prog 19 #[.pointer (some ⟨S, 3, none⟩), .int .i64 i] w fun en w' => en = .returned (.tuple #[]) ∧ Blk w' S (if len = 0 then cs.setIfInBounds (131 + i / 64) (.int .u64 (clr F (i % 64))) else cs) 51 ∧ Frm (fun k => k = S) w w' := by
  have c3 := (hS.cell (3 + i)).trans hv
  have cF := (hS.cell (131 + i / 64)).trans hF
  have fF := hS.frozen (131 + i / 64)
  have hi' : (i : Int) < 128 := by omega
  have hi0 : (0 : Int) ≤ i := by omega
  have hi64 : (i : Int) / 64 < 2 := by omega
  have hi640 : (0 : Int) ≤ (i : Int) / 64 := by omega
  have HS : Hid (Blk w S cs 51) := hS
  clear hS
  go_enter Ybaf.func19, Ybaf.ntmps19
  by_cases hl : len = 0
  · subst hl
    go_upto_region 1 with fail
    go_region
    all_goals
      go_wp2_with fail
      go_end0
      rw [andNot_word F (i % 64) hF64 (by omega)]
      exact ⟨rfl, HS.out.same _ _, ((Frm.refl (fun k => k = S) w).setCell ⟨S, 131 + i / 64, none⟩ _ (fun _ => rfl)).drew⟩
  · have hl' : ¬ (len : Int) = 0 := by omega
    go_wp2_with fail
    go_end0
    exact ⟨rfl, HS.out, Frm.refl _ _⟩

/-- The library's table, as its initialiser lays it. -/
def TabAt (w : World) : Prop := ∀ j, j < 64 → w.cell? ⟨0, j, none⟩ = some (.int .u8 (Lib.deBruijn64tab.getD j 0))

set_option maxHeartbeats 1000000 in
theorem tz_core (x k idx : Nat) (w : World) (hx0 : ((x : Int) == 0) = false)
    (key : IntKind.u64.wrap (bits BinOp.and IntKind.u64 (x : Int) (IntKind.u64.wrap (-(x : Int))) * 285870213051353865) / 288230376151711744 = (idx : Int))
    (hi : idx < 64) (hk : k < 64) (hcell : w.cell? ⟨0, idx, none⟩ = some (.int .u8 k)) :
    Calls Ybaf.prog 26 #[.int .u64 x] w fun e w' => e = .returned (.int .i64 k) ∧ w' = w := by
  go_enter Ybaf.func26, Ybaf.ntmps26
  go_wp2_with (simp only [key])
  go_ret
  exact ⟨rfl, rfl⟩
theorem tz_key (x a : Nat) (hx : x < 18446744073709551616) (hx0 : x ≠ 0) (hlow : x &&& (18446744073709551616 - x) = a) :
    IntKind.u64.wrap (bits BinOp.and IntKind.u64 (x : Int) (IntKind.u64.wrap (-(x : Int))) * 285870213051353865) / 288230376151711744 = ((a * 285870213051353865 % 18446744073709551616 / 288230376151711744 : Nat) : Int) := by
  have e1 : IntKind.u64.wrap (-(x : Int)) = ((18446744073709551616 - x : Nat) : Int) := by rw [IntKind.wrap_u64]; omega
  rw [e1, bits_and_u64_nat x _ hx (by omega), hlow, IntKind.wrap_u64]
  omega
theorem tz_ok (x : Nat) (hx : x < 18446744073709551616) (hx0 : x ≠ 0) (w : World) (hT : TabAt w) :
    Calls Ybaf.prog 26 #[.int .u64 x] w fun e w' => e = .returned (.int .i64 (Lib.ctz 64 x)) ∧ w' = w := by
  obtain ⟨hlow, hk⟩ := Lib.lowest_bit 64 x hx0 hx
  obtain ⟨hi, htab⟩ := Lib.deBruijn64_at _ hk
  have hcell := hT _ hi
  rw [htab] at hcell
  exact tz_core x _ _ w (by simp; omega) (tz_key x _ hx hx0 hlow) hi hk hcell
end Go.Proofs.YbulkaryoFmt
