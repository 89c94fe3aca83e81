/-
  The law of the draining: its plain parts, and what holds between its rounds.
-/
import Derived.Test.YbulkaryoFmtBlt
import Derived.LaidEql
namespace Go.Proofs.YbulkaryoFmt
open Go.RowKit

theorem info34 : (Ybaf.prog.info? 34).map (·.size) = some 10 := by kernel_rfl
theorem neq_same (a : Addr) (w : World) : (binOp .neq 35 (.pointer (some a)) (.pointer (some a))).run Ybaf.prog w = .ok (.bool false) w := by
  obtain ⟨j, hj, _⟩ := Option.map_eq_some_iff.1 info34
  have h : ∀ n : Nat, (Op.equalIn (n + 1) 35 (.pointer (some a)) (.pointer (some a))).run Ybaf.prog w = .ok true w := fun n => by
    simp [Op.equalIn, run_underlying Ybaf.underlying35, sizeOf, typeInfo, hj, run_sameAddr_same]
  simp only [binOp]
  simp [Op.equal, Op.maxDepth, h 9999]
theorem key_inj {d : Nat → Arr} {x y : Nat} (hx : x < 1024) (hy : y < 1024) (h : key d x = key d y) : x = y := by
  unfold key at h
  omega
theorem key_at {d : Nat → Arr} {x y : Nat} (hx : x < 1024) (hy : y < 1024) (h : key d x ≤ key d y) : (d x).at_ ≤ (d y).at_ := by
  unfold key at h
  omega
theorem total_none {m : Nat} {rem : Nat → Bool} (h : ∀ y, y < m → rem y = false) : total m rem = 0 := by
  unfold total
  rw [List.filter_eq_nil_iff.2 (fun y hy => by rw [h y (List.mem_range.1 hy)]; decide)]
  rfl
theorem onLink_zero {d : Nat → Arr} {rem : Nat → Bool} {f t : Nat} : (onLink 0 d rem f t).length = 0 := rfl
theorem onLink_step {j : Nat} {d : Nat → Arr} {rem : Nat → Bool} {f t : Nat} : (onLink (j + 1) d rem f t).length = (onLink j d rem f t).length + if (rem j && ((d j).fr == f && (d j).tt == t)) = true then 1 else 0 := by
  unfold onLink
  rw [List.range_succ, List.filter_append, List.length_append]
  congr 1
  by_cases h : (rem j && ((d j).fr == f && (d j).tt == t)) = true
  · rw [if_pos h, List.filter_cons_of_pos (p := fun x => rem x && ((d x).fr == f && (d x).tt == t)) h]
    rfl
  · rw [if_neg h, List.filter_cons_of_neg (p := fun x => rem x && ((d x).fr == f && (d x).tt == t)) h]
    rfl
theorem onLink_le {j : Nat} {d : Nat → Arr} {rem : Nat → Bool} {f t : Nat} : (onLink j d rem f t).length ≤ j := by
  unfold onLink
  exact Nat.le_trans (List.length_filter_le _ _) (by simp)

/-- The simulation behind a store elsewhere. -/
theorem Sim.frm {P : Nat → Prop} {K : Nat → Prop} {w w' : World} {B n m : Nat} {A : Nat → Nat} {d : Nat → Arr} {S : Nat} {cs : Array Value} {hs : Nat → List Nat} {ix : Nat → Nat} {F0 F1 : Nat} {ord : Bool} {LB : Nat} {RB : Nat → Nat} {lc : Array Value} {rc : Nat → Array Value} {lv : Nat → Nat → Value} {ls : Nat → Nat → List Nat} {now : Nat} {rem : Nat → Bool} (M : Sim K w B n m A d S cs hs ix F0 F1 ord LB RB lc rc lv ls now rem) (hf : Frm P w w') (hP : ∀ k, P k → K k) (hL : ¬ P LB) (h0 : ¬ P 0) : Sim K w' B n m A d S cs hs ix F0 F1 ord LB RB lc rc lv ls now rem :=
  { M with
    q := M.q.move (hf.blk M.q.blk (fun h => M.base.2.1 (hP _ h))) (fun _ _ _ => rfl) hf (fun x hx h => M.base.2.2.2 x hx (hP _ h)) (fun i hi v hv k hk h => M.offQ i hi v hv k hk (hP _ h))
    l := M.l.frm hf hL (fun f hf' h => M.base.2.2.1 f hf' (hP _ h)) (fun f t hf' ht k hk h => M.offL f t hf' ht k hk (hP _ h))
    tab := fun j hj => by
      have h1 := M.tab j hj
      have hlt := World.block_lt_of_cell? w ⟨0, j, none⟩ h1
      rw [hf.cell (a := ⟨0, j, none⟩) hlt h0]
      exact h1 }

/-- What holds between the rounds. -/
structure Dr (w0 : World) (K : Nat → Prop) (B n m : Nat) (A : Nat → Nat) (d : Nat → Arr) (S LB : Nat) (RB : Nat → Nat) (lc : Array Value) (allv : Value) (G k : Nat) (cs : Array Value) (hs : Nat → List Nat) (ix : Nat → Nat) (F0 F1 : Nat) (rc : Nat → Array Value) (lv : Nat → Nat → Value) (ls : Nat → Nat → List Nat) (now : Nat) (rem : Nat → Bool) (gc : Array Value) (wr : World) : Prop where
  sim : Sim K wr B n m A d S cs hs ix F0 F1 true LB RB lc rc lv ls now rem
  c136 : cs[136]? = some (.slice none 0 0)
  c137 : cs[137]? = some (.int .i64 0)
  ge : ∀ y, y < m → rem y = true → now ≤ (d y).at_
  tot : total m rem + k = m
  g : Blk wr G gc 4
  gv : ∀ j, j < m → gc[j]? = some (.bool (!rem j))
  all : wr.ownsRow B 35 1 allv m ((List.range m).map (ptr A))
  frm : Frm (fun j => w0.heap.size ≤ j) w0 wr

structure DrX (w0 : World) (K : Nat → Prop) (B n m : Nat) (A : Nat → Nat) (d : Nat → Arr) (S LB : Nat) (RB : Nat → Nat) (lc : Array Value) (allv : Value) (G k : Nat) (wr : World) : Prop where
  ex : ∃ cs hs ix F0 F1 rc lv ls now rem gc, Dr w0 K B n m A d S LB RB lc allv G k cs hs ix F0 F1 rc lv ls now rem gc wr

section
variable {w0 : World} {K : Nat → Prop} {B n m : Nat} {A : Nat → Nat} {d : Nat → Arr} {S LB : Nat} {RB : Nat → Nat} {lc : Array Value} {allv : Value} {G k : Nat} {cs : Array Value} {hs : Nat → List Nat} {ix : Nat → Nat} {F0 F1 : Nat} {rc : Nat → Array Value} {lv : Nat → Nat → Value} {ls : Nat → Nat → List Nat} {now : Nat} {rem : Nat → Bool} {gc : Array Value} {wr : World}

theorem Dr.drewN (D : Dr w0 K B n m A d S LB RB lc allv G k cs hs ix F0 F1 rc lv ls now rem gc wr) (q : Nat) : Dr w0 K B n m A d S LB RB lc allv G k cs hs ix F0 F1 rc lv ls now rem gc (wr.drewN q) :=
  { D with
    sim := D.sim.frm (P := fun _ => False) ((Frm.refl _ wr).drewN q) (fun _ h => h.elim) id id
    g := D.g.drewN q
    all := ((Frm.refl (fun _ => False) wr).drewN q).owns D.all (fun _ _ => id)
    frm := D.frm.trans ((Frm.refl (fun _ => False) wr).drewN q) (fun _ _ h => h.elim) }

/-- The row of all at j. -/
theorem Dr.at_ (D : Dr w0 K B n m A d S LB RB lc allv G k cs hs ix F0 F1 rc lv ls now rem gc wr) {ab : Nat} {la ca : Nat} (hv : allv = .slice (some ⟨ab, 0, none⟩) la ca) {j : Nat} (hj : j < m) : wr.cell? ⟨ab, j, none⟩ = some (.pointer (some ⟨A j, 0, none⟩)) := by
  have := D.all.cells (g := ab) (by rw [hv]; rfl) j (ptr A j) (by rw [List.getElem?_map, List.getElem?_range hj]; rfl)
  rw [add_lit, Nat.zero_add] at this
  exact this

/-- The simulation behind 'gone[x] = true'. -/
theorem Dr.mark (D : Dr w0 K B n m A d S LB RB lc allv G k cs hs ix F0 F1 rc lv ls now rem gc wr) (hKG : K G) (hG0 : G ≠ 0) {w1 : World} (hf : Frm (fun j => j = G) wr w1) : Sim K w1 B n m A d S cs hs ix F0 F1 true LB RB lc rc lv ls now rem :=
  D.sim.frm hf (fun _ h => h ▸ hKG) (fun h => blk_ne D.sim.l.lb D.g (by decide) h) (fun h => hG0 h.symm)

theorem Dr.next (D : Dr w0 K B n m A d S LB RB lc allv G k cs hs ix F0 F1 rc lv ls now rem gc wr) (hKG : K G) (hkA : ∀ q, allv.ownBlock = some q → K q) (hk0 : ∀ q, q < w0.heap.size → K q) (hG : w0.heap.size ≤ G) (hAG : ∀ q, allv.ownBlock = some q → q ≠ G) {x : Nat} (hx : x < m) (hr : rem x = true) (hle : ∀ y, y < m → rem y = true → key d x ≤ key d y) {w1 w2 : World} (hf : Frm (fun j => j = G) wr w1) (hg : Blk w1 G (gc.setIfInBounds x (.bool true)) 4) (hgone : Gone K w1 B n m A d S cs true LB RB lc (d x).at_ rem x w2) :
    ∃ cs' hs' ix' F0' F1' rc' lv' ls', Dr w0 K B n m A d S LB RB lc allv G (k + 1) cs' hs' ix' F0' F1' rc' lv' ls' (d x).at_ (without rem x) (gc.setIfInBounds x (.bool true)) w2 := by
  obtain ⟨cs', hs', ix', F0', F1', rc', lv', ls', g1, g2, g3⟩ := hgone
  have hsm := D.sim.small.2
  have hxz : x < gc.size := (Array.getElem?_eq_some_iff.1 (D.gv x hx)).1
  refine ⟨cs', hs', ix', F0', F1', rc', lv', ls', {
    sim := g1
    c136 := (g2 136 (by omega)).trans D.c136
    c137 := (g2 137 (by omega)).trans D.c137
    ge := fun y hy hry => ?_
    tot := ?_
    g := g3.blk hg (fun h => h hKG)
    gv := fun j hj => ?_
    all := g3.owns (hf.owns D.all (fun q hq e => hAG q hq e)) (fun q hq h => h (hkA q hq))
    frm := (D.frm.trans hf (fun j _ e => by omega)).trans g3 (fun j hj h => (h (hk0 j hj)).elim) }⟩
  · have h1 : rem y = true := by
      unfold without at hry
      cases h : rem y with
      | true => rfl
      | false => rw [h] at hry; cases hry
    exact key_at (by omega) (by omega) (hle y hy h1)
  · have := total_without hx hr
    have := D.tot
    omega
  · by_cases e : j = x
    · subst e
      rw [Array.getElem?_setIfInBounds_self_of_lt hxz]
      simp [without]
    · rw [Array.getElem?_setIfInBounds_ne (Ne.symm e), D.gv j hj]
      simp [without, e]
end
end Go.Proofs.YbulkaryoFmt
