/-
  total.forward: one entry is encoded and sent.
-/
import Derived.Test.YbulkaryoSend
namespace Go.Proofs.Ybulkaryo
open Go.RowKit

/-- Two rows of two element types lie in two blocks. -/
theorem owns_apart {w : World} {b c : Nat} {e f : TypeId} {s1 s2 n m : Nat} {v u : Value} {xs ys : List Value} (h : w.ownsRow b e s1 v n xs) (k : w.ownsRow c f s2 u m ys) (hne : e ≠ f) : Apart v u := fun g hv hu => by
  rcases h.2 with ⟨rfl, _⟩ | ⟨g1, c1, cur1, rfl, _, h1, _⟩
  · cases hv
  rcases k.2 with ⟨rfl, _⟩ | ⟨g2, c2, cur2, rfl, _, h2, _⟩
  · cases hu
  have e1 : g1 = g := Option.some.inj hv
  have e2 : g2 = g := Option.some.inj hu
  subst e1 e2
  rw [h1] at h2
  injection h2 with h2
  injection h2 with _ h2
  exact hne h2
theorem blk_ne {w : World} {a b : Nat} {cs ds : Array Value} {t u : TypeId} (h : Blk w a cs t) (k : Blk w b ds u) (hne : t ≠ u) : a ≠ b := fun e => by
  subst e
  unfold Blk at h k
  rw [h] at k
  injection k with k
  injection k with _ k
  exact hne k

set_option maxRecDepth 100000 in
set_option maxHeartbeats 1000000 in
theorem forward_ok (tg n fr seq : Nat) (name : ByteArray) (bv : Value) (body : List UInt8) (B E P m : Nat) (cs : Array Value) (sv z : Value) (xs : List Value) (w : World) (hP : Blk w P cs 48) (h0 : cs[0]? = some (.iface 24 (.pointer (some ⟨E, 0, none⟩))))
    (hE : Blk w E #[sv, z] 27) (hEB : E < B) (hown : w.ownsRow B 64 4 sv m xs) (hB : B ≤ w.heap.size) (hm : m ≤ 1048576) (hPB : P < B)
    (hfr : fr < 256) (hseq : seq < 18446744073709551616) (hs : name.size ≤ 1048576) (hbl : body.length ≤ 1048576) (hb : Rd w bv body) :
    Calls Yba.prog 18 #[.pointer (some ⟨P, 0, none⟩), .int .i64 tg, .int .u64 n, .agg #[.int .i64 fr, .int .u64 seq, bv, .string name]] w fun en w' => en = .returned (.tuple #[]) ∧
      ∃ sv' v, Blk w' E #[sv', z] 27 ∧ w'.ownsRow B 64 4 sv' (m + 1) (xs ++ [.int .i64 tg, .int .u8 12, .int .u64 n, v]) ∧ w'.ownsRow B 5 1 v (encOf fr seq name.data.toList body).length (Lib.byteCells (encOf fr seq name.data.toList body)) ∧
        (∀ k, v.ownBlock = some k → w.heap.size ≤ k) ∧ Frm (fun k => k = E ∨ sv.ownBlock = some k) w w' := by
  obtain ⟨pv, cv, rfl⟩ := hb.form
  have hPw := hP.lt
  have hEw := hE.lt
  have hlt := owns_lt hown
  have hEP : E ≠ P := blk_ne hE hP (by decide)
  have hmeth : ∀ w : World, (method 220 24 (.pointer (some ⟨E, 0, none⟩)) "Send").run Yba.prog w = .ok (61, .pointer (some ⟨E, 0, none⟩)) w := fun _ => by kernel_rfl
  go_enter Yba.func18, Yba.ntmps18
  go_upto_region 1 with fail
  go_name_world W hW
  have hf : Frm (fun _ => False) w W := hW ▸ (Frm.refl _ w).alloc _
  have bX : Blk W w.heap.size #[.int .i64 fr, .int .u64 seq, .slice pv body.length cv, .string name] 70 := hW ▸ Blk.new w _ 70
  have hsz : W.heap.size = w.heap.size + 1 := by rw [← hW]; simp
  clear hW
  have hE1 := hf.blk hE id
  have hP1 := hf.blk hP id
  have own1 := hf.owns hown (fun _ _ => id)
  have hb1 := hb.frm hf (fun _ _ => id)
  have c0 := (hP1.cell 0).trans h0
  have x0 := (bX.cell 0).trans (show _ = some (.int .i64 fr) from rfl)
  have x1 := (bX.cell 1).trans (show _ = some (.int .u64 seq) from rfl)
  have x2 := (bX.cell 2).trans (show _ = some (.slice pv body.length cv) from rfl)
  have x3 := (bX.cell 3).trans (show _ = some (.string name) from rfl)
  go_region_held3 (fun w' => w'.cell? ⟨P, 0, none⟩ = some (.iface 24 (.pointer (some ⟨E, 0, none⟩))) ∧ w'.cell? ⟨w.heap.size, 0, none⟩ = some (.int .i64 fr) ∧ w'.cell? ⟨w.heap.size, 1, none⟩ = some (.int .u64 seq) ∧ w'.cell? ⟨w.heap.size, 2, none⟩ = some (.slice pv body.length cv) ∧ w'.cell? ⟨w.heap.size, 3, none⟩ = some (.string name)) (go_keep) (first
    | (go_at_call 27; refine (forwarded_ok fr seq name (.slice pv body.length cv) body _ hfr hseq hs hbl (by exact hb1)).mono ?_; rintro e w1 ⟨v1, rfl, own2, f1⟩; have bX1 := f1.blk (b := w.heap.size) (cs := #[.int .i64 fr, .int .u64 seq, .slice pv body.length cv, .string name]) (t := 70) (by exact bX) id; have hP2 := f1.blk (b := P) (cs := cs) (t := 48) (by exact hP1) id; have d0 := (hP2.cell 0).trans h0; have y0 := (bX1.cell 0).trans (show _ = some (.int .i64 fr) from rfl); have y1 := (bX1.cell 1).trans (show _ = some (.int .u64 seq) from rfl); have y2 := (bX1.cell 2).trans (show _ = some (.slice pv body.length cv) from rfl); have y3 := (bX1.cell 3).trans (show _ = some (.string name) from rfl); obtain ⟨p1, n1, rfl, _, _, _⟩ := owns_form own2)
    | (go_at_call 61; refine (send_ok 12 tg n p1 _ n1 B E m sv z xs _ (f1.blk (by exact hE1) id) hEB (f1.owns (by exact own1) (fun _ _ => id)) (by have := f1.size; simp at this; omega) hm).mono ?_; rintro e w2 ⟨rfl, sv', bE2, own3, f2⟩; have bX2 := f2.blk bX1 (fun h => by rcases h with h | h; (· omega); (· have := (hlt _ h).2; omega)); have hP3 := f2.blk hP2 (fun h => by rcases h with h | h; (· omega); (· have := (hlt _ h).1; omega)); have e0 := (hP3.cell 0).trans h0; have z0 := (bX2.cell 0).trans (show _ = some (.int .i64 fr) from rfl); have z1 := (bX2.cell 1).trans (show _ = some (.int .u64 seq) from rfl); have z2 := (bX2.cell 2).trans (show _ = some (.slice pv body.length cv) from rfl); have z3 := (bX2.cell 3).trans (show _ = some (.string name) from rfl)))
  go_end0
  have hn2 : ∀ k, (Value.slice p1 (encOf fr seq name.data.toList body).length n1).ownBlock = some k → w.heap.size + 1 ≤ k := fun k hk => by
    have := (owns_lt own2 k hk).1
    simp [hsz] at this
    omega
  refine ⟨rfl, sv', _, bE2, own3, f2.owns (owns_base own2 ?_) ?_, fun k hk => by have := hn2 k hk; omega, ?_⟩
  · simp
    omega
  · intro k hk h
    have := hn2 k hk
    rcases h with h | h
    · omega
    · have := (hlt _ h).2
      omega
  · exact (((hf.drew).trans f1 (fun _ _ h => h)).mono (fun _ _ h => h.elim)).trans f2 (fun _ _ h => h)
end Go.Proofs.Ybulkaryo
