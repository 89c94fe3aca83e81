/-
  The entries that came in, opened: from what the row says to ArgV and Args.
-/
import Derived.Test.YbulkaryoArgs
import Derived.OpenShut
import Derived.SizedLaws
import Derived.ChangeOld
import Derived.ProofKit
namespace Go.Proofs.Ybulkaryo
open Go.ChangeShapes Go.WideShapes Go.ChangeAt Go.RowKit

theorem weightsAll_mem {H : Type} {P : Program} {e : TypeId} {d : DataW H} {n : Nat} : ∀ {ds : List (DataW H)}, d ∈ ds → n ∈ d.weights P e → n ∈ DataW.weightsAll P e ds
  | d0 :: ds, hd, hn => by
    simp only [DataW.weightsAll, List.mem_append]
    rcases List.mem_cons.1 hd with rfl | h
    · exact .inl hn
    · exact .inr (weightsAll_mem h hn)

theorem lt_of_cell {w : World} {a : Addr} {v : Value} (h : w.cell? a = some v) : a.block < w.heap.size := by
  rcases Nat.lt_or_ge a.block w.heap.size with h1 | h1
  · exact h1
  · have : w.heap[a.block]? = none := by simp [h1]
    simp [World.cell?, this] at h

theorem list_four {α : Type} {l : List α} (h : l.length = 4) : ∃ a b c d, l = [a, b, c, d] := by
  cases l with
  | nil => cases h
  | cons a l => cases l with
    | nil => cases h
    | cons b l => cases l with
      | nil => cases h
      | cons c l => cases l with
        | nil => cases h
        | cons d l => cases l with
          | nil => exact ⟨a, b, c, d, rfl⟩
          | cons e l => simp at h

/-- The bytes of a body. -/
theorem open_body {H : Type} {enc : TypeId × Value → H} {W : World} {n : Nat} {v : Value} {x : DataW H × List MemPlace} (h : DataW.trod enc Yba.prog W 0 (fun _ => true) true n 62 [v] = some x) (hw : ∀ n ∈ x.1.weights Yba.prog 62, n ≤ reachBytes) :
    ∃ p bs c, v = .slice p bs.length c ∧ Rd W v bs ∧ (∀ k, rdB v = some k → k < W.heap.size) ∧ bs.length ≤ 140737488355328 := by
  rcases open_ints Yba.underlying62 Yba.underlying5 (by kernel_rfl) h with ⟨hcs, _⟩ | ⟨a, len, cap, zs, hcs, _, hl, hm, hz, hx, hcell, hwz⟩
  · simp at hcs
    subst hcs
    exact ⟨none, [], 0, rfl, .inl ⟨none, 0, rfl, rfl⟩, fun k hk => by simp [rdB] at hk, by simp⟩
  · simp at hcs
    subst hcs
    simp at hz
    have hreach : len ≤ reachBytes := by
      have := hw ((zs.take len).length + (zs.drop len).length) (by
        rw [hx]
        simp only [DataW.weights, Yba.underlying62, lits, List.length_map]
        rw [show Yba.prog.bytesOf 5 = 1 from by kernel_rfl, Nat.mul_one]
        exact List.mem_cons_self)
      simp at this
      omega
    have h47 := reachBytes_lt
    have hbl : ((zs.take len).map fun z => UInt8.ofNat z.toNat).length = len := by simp; omega
    rcases Nat.eq_zero_or_pos len with h0 | h0
    · subst h0
      exact ⟨some a, [], cap, rfl, .inl ⟨_, _, rfl, rfl⟩, fun k hk => by simp [rdB] at hk, by simp⟩
    · obtain ⟨b, off, rfl, hc⟩ := ints_at hcell (by omega)
      have hb : b < W.heap.size := lt_of_cell (a := ⟨b, off + 0, none⟩) (hc 0 (by omega))
      refine ⟨_, (zs.take len).map fun z => UInt8.ofNat z.toNat, cap, by rw [hbl], .inr ⟨b, off, cap, by rw [hbl], hb, fun j x hj => ?_⟩, fun k hk => ?_, by rw [hbl]; omega⟩
      · have hjl : j < len := by
          have := (List.getElem?_eq_some_iff.1 hj).1
          omega
        rw [hc j (by omega)]
        have hbd := range_u8 hwz j
        rw [List.getElem?_map, List.getElem?_take_of_lt hjl] at hj
        rw [List.getElem?_eq_getElem (by omega)] at hj hbd
        simp at hj
        simp at hbd
        subst hj
        simp [List.getD, List.getElem?_eq_getElem (show j < zs.length by omega)]
        omega
      · have := rdB_own hk
        simp [Value.ownBlock] at this
        omega

/-- An entry that came in. -/
theorem open_entry {H : Type} {enc : TypeId × Value → H} {W : World} {n : Nat} {a : Addr} {x : DataW H × List MemPlace}
    (h : (W.cells? 0 a (Yba.prog.cellsOf 67)).bind (DataW.trod enc Yba.prog W 0 (fun _ => true) true n 67) = some x) (hw : ∀ n ∈ x.1.weights Yba.prog 67, n ≤ reachBytes) :
    ∃ e : Ent, a.spot = none ∧ a.block < W.heap.size ∧ ArgAt W W.heap.size a.block a.off 0 e ∧ (e.name.size ≤ 140737488355328 ∧ e.body.length ≤ 140737488355328) ∧ e.fr < 256 ∧ e.seq < 18446744073709551616 := by
  rw [show Yba.prog.cellsOf 67 = 4 from by kernel_rfl, Option.bind_eq_some_iff] at h
  obtain ⟨cs, hcs, ht⟩ := h
  obtain ⟨_, hlen, hcell⟩ := World.cells?_some hcs
  obtain ⟨xs, m, rfl, rfl, _, hxl, hf⟩ := DataW.trod_struct Yba.underlying67 ht
  simp at hxl
  obtain ⟨c0, c1, c2, c3, rfl⟩ := list_four hlen
  obtain ⟨y0, y1, y2, y3, rfl⟩ := list_four hxl
  have f0 : DataW.trod enc Yba.prog W 0 (fun _ => true) true m 5 (([c0, c1, c2, c3].drop 0).take (Yba.prog.cellsOf 5)) = some y0 := hf 0 _ rfl
  have f1 : DataW.trod enc Yba.prog W 0 (fun _ => true) true m 33 (([c0, c1, c2, c3].drop 1).take (Yba.prog.cellsOf 33)) = some y1 := hf 1 _ rfl
  have f2 : DataW.trod enc Yba.prog W 0 (fun _ => true) true m 9 (([c0, c1, c2, c3].drop 2).take (Yba.prog.cellsOf 9)) = some y2 := hf 2 _ rfl
  have f3 : DataW.trod enc Yba.prog W 0 (fun _ => true) true m 62 (([c0, c1, c2, c3].drop 3).take (Yba.prog.cellsOf 62)) = some y3 := hf 3 _ rfl
  rw [show Yba.prog.cellsOf 5 = 1 from by kernel_rfl] at f0
  rw [show Yba.prog.cellsOf 33 = 1 from by kernel_rfl] at f1
  rw [show Yba.prog.cellsOf 9 = 1 from by kernel_rfl] at f2
  rw [show Yba.prog.cellsOf 62 = 1 from by kernel_rfl] at f3
  obtain ⟨n0, e0, rfl, w0⟩ := DataW.trod_int Yba.underlying5 f0
  obtain ⟨n1, e1, rfl, w1⟩ := DataW.trod_int Yba.underlying33 f1
  obtain ⟨s, e2, rfl, _⟩ := DataW.trod_string Yba.underlying9 f2
  simp at e0 e1 e2
  subst e0; subst e1; subst e2
  have hwe : ∀ n ∈ DataW.weightsEach Yba.prog [5, 33, 9, 62] [DataW.lit (.int .u8 n0), .lit (.int .u64 n1), .lit (.string s.data.toList), y3.1], n ≤ reachBytes := by
    intro q hq
    refine hw q ?_
    simp only [DataW.weights, Yba.underlying67]
    exact hq
  have hs : s.size ≤ reachBytes := by
    refine hwe _ ?_
    simp [DataW.weightsEach, DataW.weights]
  obtain ⟨p, bs, c, rfl, hrd, hlow, hbl⟩ := open_body (v := c3) f3 (fun q hq => hwe q (by simp [DataW.weightsEach, hq]))
  have h47 := reachBytes_lt
  have b0 := bounds_u8 w0
  have b1 := bounds_u64 w1
  obtain ⟨b, off, spot⟩ := a
  have k0 := hcell 0 (by omega)
  have k1 := hcell 1 (by omega)
  have k2 := hcell 2 (by omega)
  have k3 := hcell 3 (by omega)
  have hspot : spot = none := by simpa [Addr.add] using World.cell?_spot k0
  subst hspot
  rw [add_lit] at k0 k1 k2 k3
  refine ⟨⟨n0.toNat, n1.toNat, s, bs⟩, rfl, lt_of_cell k0, ⟨?_, ?_, ?_, p, c, ?_, hrd, hlow⟩, ⟨by show s.size ≤ _; omega, hbl⟩, by show n0.toNat < _; omega, by show n1.toNat < _; omega⟩
  · show W.cell? ⟨b, off + 0 * 4, none⟩ = some (.int .u8 (n0.toNat : Int))
    rw [Int.toNat_of_nonneg b0.1]
    exact k0
  · show W.cell? ⟨b, off + 0 * 4 + 1, none⟩ = some (.int .u64 (n1.toNat : Int))
    rw [Int.toNat_of_nonneg b1.1, Nat.zero_mul]
    exact k1
  · show W.cell? ⟨b, off + 0 * 4 + 2, none⟩ = some (.string s)
    rw [Nat.zero_mul]
    exact k2
  · show W.cell? ⟨b, off + 0 * 4 + 3, none⟩ = some _
    rw [Nat.zero_mul]
    exact k3

/-- A list out of what is there for each index. -/
theorem list_of_each {α : Type} {p : Nat → α → Prop} : ∀ n : Nat, (∀ i, i < n → ∃ x, p i x) → ∃ l : List α, l.length = n ∧ ∀ i x, l[i]? = some x → p i x
  | 0, _ => ⟨[], rfl, fun i x h => by simp at h⟩
  | n + 1, h => by
    obtain ⟨l, hl, hp⟩ := list_of_each n (fun i hi => h i (by omega))
    obtain ⟨x, hx⟩ := h n (by omega)
    refine ⟨l ++ [x], by simp [hl], fun i y hy => ?_⟩
    rcases Nat.lt_trichotomy i n with h1 | h1 | h1
    · rw [List.getElem?_append_left (by omega)] at hy
      exact hp i y hy
    · subst h1
      rw [List.getElem?_append_right (by omega), hl] at hy
      simp at hy
      subst hy
      exact hx
    · rw [List.getElem?_eq_none (by simp; omega)] at hy
      cases hy

/-- The slice of entries that came in. -/
theorem open_entries {H : Type} {enc : TypeId × Value → H} {W : World} {v : Value} {d : DataW H} {ps : List MemPlace} (hv : v.cells.toList = [v])
    (h : DataW.Trod enc Yba.prog W 0 (fun _ => true) true 22 v d ps) (hw : ∀ n ∈ d.weights Yba.prog 22, n ≤ reachBytes) :
    ∃ (b o : Nat) (es : List Ent), ArgV v b o es.length ∧ Args W W.heap.size b o es ∧ es.length ≤ 140737488355328 ∧ (∀ e ∈ es, e.name.size ≤ 140737488355328 ∧ e.body.length ≤ 140737488355328) ∧ ∀ e ∈ es, e.fr < 256 ∧ e.seq < 18446744073709551616 := by
  obtain ⟨fuel, hf⟩ := h
  rw [hv] at hf
  rcases DataW.trod_slice Yba.underlying22 hf with ⟨hcs, _⟩ | ⟨a, len, cap, elems, rest, n, rfl, hcs, hx, _, hl, hm, hlen, hel, _, _⟩
  · simp at hcs
    subst hcs
    exact ⟨0, 0, [], .inl ⟨none, 0, rfl, rfl⟩, ⟨fun h => absurd rfl h, fun i e hi => by simp at hi⟩, by simp, fun e he => by simp at he, fun e he => by simp at he⟩
  · simp at hcs
    subst hcs
    simp only [Prod.mk.injEq] at hx
    obtain ⟨rfl, _⟩ := hx
    simp only [DataW.weights, Yba.underlying22, List.length_map] at hw
    have h47 := reachBytes_lt
    have hreach : len ≤ reachBytes := by
      have := hw _ List.mem_cons_self
      rw [show Yba.prog.bytesOf 67 = 56 from by kernel_rfl] at this
      omega
    have hsp0 : ∀ i, i < len → a.spot = none := fun i hi => by
      have hy : elems[0]? = some (elems[0]'(by omega)) := List.getElem?_eq_getElem (by omega)
      have hi' := (hel 0 (by omega)).trans hy
      obtain ⟨_, h1, _⟩ := open_entry hi' (fun q hq => hw q (List.mem_cons_of_mem _ (List.mem_append_left _ (weightsAll_mem (List.mem_map.2 ⟨_, List.mem_of_getElem? hy, rfl⟩) hq))))
      simpa [Addr.add] using h1
    obtain ⟨es, hel', hp⟩ := list_of_each (p := fun i (e : Ent) => a.spot = none ∧ a.block < W.heap.size ∧ ArgAt W W.heap.size a.block a.off i e ∧ (e.name.size ≤ 140737488355328 ∧ e.body.length ≤ 140737488355328) ∧ e.fr < 256 ∧ e.seq < 18446744073709551616) len (fun i hi => by
      have hy : elems[i]? = some (elems[i]'(by omega)) := List.getElem?_eq_getElem (by omega)
      have hi' := (hel i hi).trans hy
      obtain ⟨e, _, h2, h3, h4, h5⟩ := open_entry hi' (fun q hq => hw q (List.mem_cons_of_mem _ (List.mem_append_left _ (weightsAll_mem (List.mem_map.2 ⟨_, List.mem_of_getElem? hy, rfl⟩) hq))))
      rw [show Yba.prog.cellsOf 67 = 4 from by kernel_rfl] at h2 h3
      obtain ⟨b, off, spot⟩ := a
      obtain rfl : spot = none := hsp0 i hi
      rw [add_lit] at h2 h3
      obtain ⟨k0, k1, k2, k3⟩ := h3
      simp only [Nat.zero_mul, Nat.add_zero] at k0 k1 k2 k3
      exact ⟨e, rfl, h2, ⟨k0, k1, k2, k3⟩, h4, h5⟩)
    have hmem : ∀ e ∈ es, ∃ i, es[i]? = some e := fun e he => List.getElem?_of_mem he
    refine ⟨a.block, a.off, es, ?_, ⟨fun hne => ?_, fun i e hi => (hp i e hi).2.2.1⟩, by omega, fun e he => ?_, fun e he => ?_⟩
    · rcases Nat.eq_zero_or_pos len with h0 | h0
      · subst h0
        exact .inl ⟨_, _, rfl, hel'⟩
      · have hy : es[0]? = some (es[0]'(by omega)) := List.getElem?_eq_getElem (by omega)
        have hs := (hp 0 _ hy).1
        obtain ⟨b, off, spot⟩ := a
        simp at hs
        subst hs
        exact .inr ⟨_, by rw [hel']⟩
    · cases es with
      | nil => exact absurd rfl hne
      | cons e es => exact (hp 0 e rfl).2.1
    · obtain ⟨i, hi⟩ := hmem e he
      exact (hp i e hi).2.2.2.1
    · obtain ⟨i, hi⟩ := hmem e he
      exact (hp i e hi).2.2.2.2
end Go.Proofs.Ybulkaryo
