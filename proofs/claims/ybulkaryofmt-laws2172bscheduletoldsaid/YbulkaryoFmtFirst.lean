/-
  arrivals.firstFull.
-/
import Derived.Test.YbulkaryoFmtFull
namespace Go.Proofs.YbulkaryoFmt
open Go.RowKit

theorem ctz_bits (x : Nat) (hx0 : x ≠ 0) (hx : x < 18446744073709551616) : x.testBit (Lib.ctz 64 x) = true ∧ (∀ i, i < Lib.ctz 64 x → x.testBit i = false) ∧ Lib.ctz 64 x < 64 := by
  obtain ⟨m, h1, h2⟩ := Lib.ctzFrom_spec 64 x (by omega) hx
  have e : Lib.ctz 64 x = Lib.ctzFrom 64 x := by
    unfold Lib.ctz
    rw [if_neg hx0]
  rw [e]
  generalize Lib.ctzFrom 64 x = c at h1 h2
  refine ⟨?_, fun i hi => ?_, h2⟩
  · rw [h1, Nat.testBit_two_pow_mul, Nat.sub_self]
    simp
  · rw [h1, Nat.testBit_two_pow_mul]
    simp
    omega

def ff (fr F0 F1 : Nat) : Nat := if fr < 64 then (if F0 = 0 then 64 + Lib.ctz 64 F1 else Lib.ctz 64 F0) else (if F1 = 0 then Lib.ctz 64 F0 else 64 + Lib.ctz 64 F1)

set_option maxRecDepth 100000 in
set_option maxHeartbeats 1000000 in
theorem firstFull_ok (S : Nat) (cs : Array Value) (fr F0 F1 : Nat) (w : World) (hS : Blk w S cs 51) (h0 : cs[131]? = some (.int .u64 F0)) (h1 : cs[132]? = some (.int .u64 F1)) (hfr : fr < 128) (hF0 : F0 < 18446744073709551616) (hF1 : F1 < 18446744073709551616) (hne : F0 ≠ 0 ∨ F1 ≠ 0) (hT : TabAt w) :
    Calls Ybaf.prog 17 #[.pointer (some ⟨S, 3, none⟩), .int .i64 fr] w fun en w' => en = .returned (.int .i64 (ff fr F0 F1)) ∧ w' = w := by
  have c0 := (hS.cell 131).trans h0
  have c1 := (hS.cell 132).trans h1
  have hfr0 : (0 : Int) ≤ fr := by omega
  have tz : Hid (∀ x : Nat, x < 18446744073709551616 → x ≠ 0 → Calls Ybaf.prog 26 #[.int .u64 x] w fun e w' => e = .returned (.int .i64 (Lib.ctz 64 x)) ∧ w' = w) := fun x hx hx0 => tz_ok x hx hx0 w hT
  have b0 : F0 ≠ 0 → Lib.ctz 64 F0 < 64 := fun h => (ctz_bits F0 h hF0).2.2
  have b1 : F1 ≠ 0 → Lib.ctz 64 F1 < 64 := fun h => (ctz_bits F1 h hF1).2.2
  clear hS hT h0 h1
  by_cases h64 : fr < 64
  · have hq : (fr : Int) / 64 = 0 := by omega
    go_enter Ybaf.func17, Ybaf.ntmps17
    go_wp2_with fail
    go_loopw [8] (fun vk wr => ∃ k : Nat, vk = .int .i64 k ∧ (k = 0 ∨ (k = 1 ∧ F0 = 0)) ∧ wr = w) (fun vk _ => 2 - (intOf vk).toNat)
    case atStart => exact ⟨0, rfl, .inl rfl, rfl⟩
    case round =>
      obtain ⟨k, rfl, hk, hwr⟩ := hrel
      rw [hwr]
      clear hwr wr
      rcases hk with hk | ⟨hk, hz⟩
      · subst hk
        by_cases hz : F0 = 0
        · subst hz
          clear hne b0 tz
          go_wp2_with fail
          exact ⟨⟨1, rfl, .inr ⟨rfl, by first | rfl | trivial⟩, by first | rfl | trivial⟩, by simp [intOf]⟩
        · have hz' : ¬ (F0 : Int) = 0 := by omega
          have hb := b0 hz
          have hb' : (Lib.ctz 64 F0 : Int) < 64 := by omega
          go_wp2_with (go_at_call 26; refine (tz.out F0 hF0 hz).mono ?_; rintro e w1 ⟨rfl, hw1⟩; rw [hw1]; clear hw1 w1)
          go_ret
          refine ⟨?_, rfl⟩
          unfold ff
          rw [if_pos h64, if_neg hz]
          rfl
      · subst hk
        have hn1 : F1 ≠ 0 := by omega
        have hz' : ¬ (F1 : Int) = 0 := by omega
        have hb := b1 hn1
        have hb' : (Lib.ctz 64 F1 : Int) < 64 := by omega
        have HZ : Hid (F0 = 0) := hz
        clear hz hne
        go_wp2_with (go_at_call 26; refine (tz.out F1 hF1 hn1).mono ?_; rintro e w1 ⟨rfl, hw1⟩; rw [hw1]; clear hw1 w1)
        go_ret
        refine ⟨?_, rfl⟩
        unfold ff
        rw [if_pos h64, if_pos HZ.out]
        rfl
  · have hq : (fr : Int) / 64 = 1 := by omega
    go_enter Ybaf.func17, Ybaf.ntmps17
    go_wp2_with fail
    go_loopw [8] (fun vk wr => ∃ k : Nat, vk = .int .i64 k ∧ (k = 0 ∨ (k = 1 ∧ F1 = 0)) ∧ wr = w) (fun vk _ => 2 - (intOf vk).toNat)
    case atStart => exact ⟨0, rfl, .inl rfl, rfl⟩
    case round =>
      obtain ⟨k, rfl, hk, hwr⟩ := hrel
      rw [hwr]
      clear hwr wr
      rcases hk with hk | ⟨hk, hz⟩
      · subst hk
        by_cases hz : F1 = 0
        · subst hz
          clear hne b1 tz
          go_wp2_with fail
          exact ⟨⟨1, rfl, .inr ⟨rfl, by first | rfl | trivial⟩, by first | rfl | trivial⟩, by simp [intOf]⟩
        · have hz' : ¬ (F1 : Int) = 0 := by omega
          have hb := b1 hz
          have hb' : (Lib.ctz 64 F1 : Int) < 64 := by omega
          go_wp2_with (go_at_call 26; refine (tz.out F1 hF1 hz).mono ?_; rintro e w1 ⟨rfl, hw1⟩; rw [hw1]; clear hw1 w1)
          go_ret
          refine ⟨?_, rfl⟩
          unfold ff
          rw [if_neg h64, if_neg hz]
          rfl
      · subst hk
        have hn1 : F0 ≠ 0 := by omega
        have hz' : ¬ (F0 : Int) = 0 := by omega
        have hb := b0 hn1
        have hb' : (Lib.ctz 64 F0 : Int) < 64 := by omega
        have HZ : Hid (F1 = 0) := hz
        clear hz hne
        go_wp2_with (go_at_call 26; refine (tz.out F0 hF0 hn1).mono ?_; rintro e w1 ⟨rfl, hw1⟩; rw [hw1]; clear hw1 w1)
        go_ret
        refine ⟨?_, rfl⟩
        unfold ff
        rw [if_neg h64, if_pos HZ.out]
        rfl
end Go.Proofs.YbulkaryoFmt
