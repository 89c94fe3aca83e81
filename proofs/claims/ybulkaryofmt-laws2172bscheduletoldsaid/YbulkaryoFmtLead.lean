/-
  The heads of the links, and the end of a link that leads; the walks that look for them.
-/
import Derived.Test.YbulkaryoFmtDr
import Derived.Deep.QuietTactic
namespace Go.Proofs.YbulkaryoFmt
open Go.RowKit

/-- The oldest on the link from f to t. -/
def hd (m : Nat) (d : Nat → Arr) (rem : Nat → Bool) (f t : Nat) : Option Nat := (onLink m d rem f t).head?
def onIt (d : Nat → Arr) (rem : Nat → Bool) (f t y : Nat) : Bool := rem y && ((d y).fr == f && (d y).tt == t)

theorem hd_find (m : Nat) (d : Nat → Arr) (rem : Nat → Bool) (f t : Nat) : hd m d rem f t = (List.range m).find? (onIt d rem f t) := by
  unfold hd onLink
  rw [List.head?_filter]
  rfl
theorem hd_first {m : Nat} {d : Nat → Arr} {rem : Nat → Bool} {f t j : Nat} (hj : j < m) (hp : onIt d rem f t j = true) (hno : ∀ y, y < j → onIt d rem f t y = false) : hd m d rem f t = some j := by
  rw [hd_find, List.find?_range_eq_some]
  exact ⟨hp, List.mem_range.2 hj, fun y hy => by rw [hno y hy]; rfl⟩
theorem hd_none {m : Nat} {d : Nat → Arr} {rem : Nat → Bool} {f t : Nat} (hno : ∀ y, y < m → onIt d rem f t y = false) : hd m d rem f t = none := by
  rw [hd_find, List.find?_eq_none]
  intro y hy
  rw [hno y (List.mem_range.1 hy)]
  decide
theorem hd_mem {m : Nat} {d : Nat → Arr} {rem : Nat → Bool} {f t x : Nat} (h : hd m d rem f t = some x) : x < m ∧ rem x = true ∧ (d x).fr = f ∧ (d x).tt = t := by
  have hm : x ∈ onLink m d rem f t := List.mem_of_mem_head? h
  unfold onLink at hm
  obtain ⟨h1, h2⟩ := List.mem_filter.1 hm
  simp only [Bool.and_eq_true, beq_iff_eq] at h2
  exact ⟨List.mem_range.1 h1, h2.1, h2.2.1, h2.2.2⟩

/-- Of the heads of the links of which P speaks, those that end their links: the first of them. -/
def LeadIn (h : Nat → Nat → Option Nat) (cut : Nat → Bool) (P : Nat → Nat → Prop) : Option Nat → Prop
  | none => ∀ f t, P f t → ∀ y, h f t = some y → cut y = false
  | some x => (∃ f t, P f t ∧ h f t = some x) ∧ cut x = true ∧ ∀ f t, P f t → ∀ y, h f t = some y → cut y = true → x ≤ y

section
variable {h : Nat → Nat → Option Nat} {cut : Nat → Bool} {P Q : Nat → Nat → Prop} {o o' : Option Nat}
theorem LeadIn.unique (h1 : LeadIn h cut P o) (h2 : LeadIn h cut P o') : o = o' := by
  cases o with
  | none =>
    cases o' with
    | none => rfl
    | some x =>
      obtain ⟨⟨f, t, hp, hx⟩, hc, _⟩ := h2
      have := h1 f t hp x hx
      rw [hc] at this
      cases this
  | some x =>
    obtain ⟨⟨f, t, hp, hx⟩, hc, hl⟩ := h1
    cases o' with
    | none =>
      have := h2 f t hp x hx
      rw [hc] at this
      cases this
    | some y =>
      obtain ⟨⟨f', t', hp', hy⟩, hc', hl'⟩ := h2
      have h3 := hl f' t' hp' y hy hc'
      have h4 := hl' f t hp x hx hc
      rw [Nat.le_antisymm h3 h4]
theorem LeadIn.congr (h1 : LeadIn h cut P o) (hpq : ∀ f t, P f t ↔ Q f t) : LeadIn h cut Q o := by
  cases o with
  | none => exact fun f t hq => h1 f t ((hpq f t).2 hq)
  | some x =>
    obtain ⟨⟨f, t, hp, hx⟩, hc, hl⟩ := h1
    exact ⟨⟨f, t, (hpq f t).1 hp, hx⟩, hc, fun f' t' hq => hl f' t' ((hpq f' t').2 hq)⟩
theorem LeadIn.empty (hp : ∀ f t, ¬ P f t) : LeadIn h cut P none := fun f t h => (hp f t h).elim
/-- A link whose head, if any, does not end it. -/
theorem LeadIn.skip {f0 t0 : Nat} (h1 : LeadIn h cut P o) (hn : ∀ y, h f0 t0 = some y → cut y = false) (hq : ∀ f t, Q f t ↔ P f t ∨ (f = f0 ∧ t = t0)) : LeadIn h cut Q o := by
  cases o with
  | none =>
    intro f t hqt y hy
    rcases (hq f t).1 hqt with hp | ⟨rfl, rfl⟩
    · exact h1 f t hp y hy
    · exact hn y hy
  | some x =>
    obtain ⟨⟨f, t, hp, hx⟩, hc, hl⟩ := h1
    refine ⟨⟨f, t, (hq f t).2 (.inl hp), hx⟩, hc, fun f' t' hqt y hy hcy => ?_⟩
    rcases (hq f' t').1 hqt with hp' | ⟨rfl, rfl⟩
    · exact hl f' t' hp' y hy hcy
    · rw [hn y hy] at hcy
      cases hcy
/-- A link whose head ends it, the first so far. -/
theorem LeadIn.take {f0 t0 y : Nat} (h1 : LeadIn h cut P o) (hy : h f0 t0 = some y) (hc : cut y = true) (hle : ∀ x, o = some x → y ≤ x) (hq : ∀ f t, Q f t ↔ P f t ∨ (f = f0 ∧ t = t0)) : LeadIn h cut Q (some y) := by
  refine ⟨⟨f0, t0, (hq _ _).2 (.inr ⟨rfl, rfl⟩), hy⟩, hc, fun f t hqt z hz hcz => ?_⟩
  rcases (hq f t).1 hqt with hp | ⟨rfl, rfl⟩
  · cases o with
    | none =>
      have := h1 f t hp z hz
      rw [hcz] at this
      cases this
    | some x => exact Nat.le_trans (hle x rfl) (h1.2.2 f t hp z hz hcz)
  · rw [hy] at hz
    rw [Option.some.inj hz]
    exact Nat.le_refl _
/-- A link whose head ends it, not the first. -/
theorem LeadIn.keep {f0 t0 y x : Nat} (h1 : LeadIn h cut P (some x)) (hy : h f0 t0 = some y) (hle : x ≤ y) (hq : ∀ f t, Q f t ↔ P f t ∨ (f = f0 ∧ t = t0)) : LeadIn h cut Q (some x) := by
  obtain ⟨⟨f, t, hp, hx⟩, hc, hl⟩ := h1
  refine ⟨⟨f, t, (hq f t).2 (.inl hp), hx⟩, hc, fun f' t' hqt z hz hcz => ?_⟩
  rcases (hq f' t').1 hqt with hp' | ⟨rfl, rfl⟩
  · exact hl f' t' hp' z hz hcz
  · rw [hy] at hz
    rw [← Option.some.inj hz]
    exact hle
end

set_option maxRecDepth 100000 in
set_option maxHeartbeats 1000000 in
theorem ends_ok (A : Nat → Nat) (d : Nat → Arr) (x i : Nat) (w : World) (ha : Blk w (A x) (arrCells (d x) x i) 34) : Calls Ybaf.prog 20 #[.pointer (some ⟨A x, 0, none⟩)] w fun en w' => en = .returned (.bool (d x).cut) ∧ w' = w := by
  have a7 := (ha.cell 7).trans (show _ = some (.bool (d x).cut) from rfl)
  have a4 := (ha.cell 4).trans (show _ = some (.int .u8 0) from rfl)
  clear ha
  cases hc : (d x).cut with
  | true =>
    rw [hc] at a7
    go_enter Ybaf.func20, Ybaf.ntmps20
    go_wp2_with fail
    go_ret
    exact ⟨rfl, rfl⟩
  | false =>
    rw [hc] at a7
    go_enter Ybaf.func20, Ybaf.ntmps20
    go_wp2_with fail
    go_ret
    exact ⟨rfl, rfl⟩

def hInt : Option Nat → Int
  | none => -1
  | some x => x

set_option maxRecDepth 100000 in
set_option maxHeartbeats 2000000 in
theorem head_ok (m : Nat) (A : Nat → Nat) (d : Nat → Arr) (rem : Nat → Bool) (f t : Nat) (pa : Option Addr) (ca G : Nat) (w : World) (hm : m ≤ 256) (hall : ∀ j, j < m → ∃ ab, pa = some ⟨ab, 0, none⟩ ∧ w.cell? ⟨ab, j, none⟩ = some (.pointer (some ⟨A j, 0, none⟩))) (hg : ∀ j, j < m → w.cell? ⟨G, j, none⟩ = some (.bool (!rem j)))
    (h2 : ∀ j, j < m → w.cell? ⟨A j, 2, none⟩ = some (.int .i64 (d j).fr)) (h3 : ∀ j, j < m → w.cell? ⟨A j, 3, none⟩ = some (.int .i64 (d j).tt)) :
    Calls Ybaf.prog 8 #[.slice pa m ca, .slice (some ⟨G, 0, none⟩) m m, .int .i64 f, .int .i64 t] w fun en w' => en = .returned (.int .i64 (hInt (hd m d rem f t))) ∧ w' = w := by
  have HA : Hid (∀ j, j < m → ∃ ab, pa = some ⟨ab, 0, none⟩ ∧ w.cell? ⟨ab, j, none⟩ = some (.pointer (some ⟨A j, 0, none⟩))) := hall
  have HG : Hid ((∀ j, j < m → w.cell? ⟨G, j, none⟩ = some (.bool (!rem j))) ∧ (∀ j, j < m → w.cell? ⟨A j, 2, none⟩ = some (.int .i64 (d j).fr)) ∧ ∀ j, j < m → w.cell? ⟨A j, 3, none⟩ = some (.int .i64 (d j).tt)) := ⟨hg, h2, h3⟩
  clear hall hg h2 h3
  go_enter Ybaf.func8, Ybaf.ntmps8
  go_wp2_with fail
  go_loopw [9] (fun i wx => ∃ j : Nat, j ≤ m ∧ i = .int .i64 j ∧ wx = w ∧ ∀ y, y < j → onIt d rem f t y = false) (fun i _ => m - (intOf i).toNat)
  case atStart => exact ⟨0, Nat.zero_le _, rfl, rfl, fun y hy => by omega⟩
  case round =>
    obtain ⟨j, hj, rfl, hwx, hno⟩ := hrel
    subst hwx
    have HNO : Hid (∀ y, y < j → onIt d rem f t y = false) := hno
    clear hno
    by_cases hjm : j < m
    · have hjm' : (j : Int) < m := by omega
      have hj0 : (0 : Int) ≤ j := by omega
      obtain ⟨ab, rfl, cj⟩ := HA.out j hjm
      have cg := HG.out.1 j hjm
      have aj2 := HG.out.2.1 j hjm
      have aj3 := HG.out.2.2 j hjm
      have HS : Hid (onIt d rem f t j = false → ∀ y, y < j + 1 → onIt d rem f t y = false) := fun h y hy => by
        by_cases e : y = j
        · rw [e]; exact h
        · exact HNO.out y (by omega)
      have HF : Hid (onIt d rem f t j = true → hd m d rem f t = some j) := fun h => hd_first hjm h HNO.out
      cases hrj : rem j with
      | false =>
        rw [hrj] at cg
        have HH : Hid (onIt d rem f t j = false) := by
          unfold onIt
          rw [hrj]
          rfl
        go_wp2_with fail
        exact ⟨⟨j + 1, hjm, rfl, trivial, HS.out HH.out⟩, by simp [intOf]; omega⟩
      | true =>
        rw [hrj] at cg
        by_cases c1 : (d j).fr = f
        · have c1' : ((d j).fr : Int) = f := by omega
          by_cases c2 : (d j).tt = t
          · have c2' : ((d j).tt : Int) = t := by omega
            have HH : Hid (hInt (hd m d rem f t) = j) := by
              rw [HF.out (by unfold onIt; simp [hrj, c1, c2])]
              rfl
            clear c1 c2
            go_wp2_with fail
            go_ret
            exact ⟨by rw [HH.out]; rfl, rfl⟩
          · have c2' : ¬ ((d j).tt : Int) = t := by omega
            have c2b : (((d j).tt : Int) == t) = false := beq_eq_false_iff_ne.2 c2'
            have HH : Hid (onIt d rem f t j = false) := by
              unfold onIt
              simp [c2]
              exact trivial
            clear c1 c2
            go_wp2_with fail
            exact ⟨⟨j + 1, hjm, rfl, trivial, HS.out HH.out⟩, by simp [intOf]; omega⟩
        · have c1' : ¬ ((d j).fr : Int) = f := by omega
          have c1b : (((d j).fr : Int) == f) = false := beq_eq_false_iff_ne.2 c1'
          have HH : Hid (onIt d rem f t j = false) := by
            unfold onIt
            simp [c1]
            exact trivial
          clear c1
          go_wp2_with fail
          exact ⟨⟨j + 1, hjm, rfl, trivial, HS.out HH.out⟩, by simp [intOf]; omega⟩
    · obtain rfl : j = m := by omega
      have hjj : ¬ (j : Int) < j := by omega
      have HH : Hid (hInt (hd j d rem f t) = -1) := by
        rw [hd_none HNO.out]
        rfl
      go_wp2_with fail
      go_ret
      exact ⟨by rw [HH.out]; rfl, rfl⟩

/-- The pointer to an arrival, or none. -/
def optPtr (A : Nat → Nat) : Option Nat → Value
  | none => .pointer none
  | some x => .pointer (some ⟨A x, 0, none⟩)

theorem nil_eq_nil (w : World) : (binOp .eql 35 (.pointer none) (.pointer none)).run Ybaf.prog w = .ok (.bool true) w := by
  have h : ∀ n : Nat, (Op.equalIn (n + 1) 35 (.pointer none) (.pointer none)).run Ybaf.prog w = .ok true w := fun n => by
    simp [Op.equalIn, run_underlying Ybaf.underlying35]
  simp only [binOp]
  simp [Op.equal, Op.maxDepth, h 9999]
theorem ptr_eq_nil (a : Addr) (w : World) : (binOp .eql 35 (.pointer (some a)) (.pointer none)).run Ybaf.prog w = .ok (.bool false) w := by
  have h : ∀ n : Nat, (Op.equalIn (n + 1) 35 (.pointer (some a)) (.pointer none)).run Ybaf.prog w = .ok false w := fun n => by
    simp [Op.equalIn, run_underlying Ybaf.underlying35]
  simp only [binOp]
  simp [Op.equal, Op.maxDepth, h 9999]

set_option maxRecDepth 100000 in
set_option maxHeartbeats 4000000 in
theorem lead_ok {K : Nat → Prop} {w : World} {B n m : Nat} {A : Nat → Nat} {d : Nat → Arr} {S : Nat} {cs : Array Value} {hs : Nat → List Nat} {ix : Nat → Nat} {F0 F1 : Nat} {LB : Nat} {RB : Nat → Nat} {lc : Array Value} {rc : Nat → Array Value} {lv : Nat → Nat → Value} {ls : Nat → Nat → List Nat} {now : Nat} {rem : Nat → Bool} (M : Sim K w B n m A d S cs hs ix F0 F1 false LB RB lc rc lv ls now rem) :
    Calls Ybaf.prog 12 #[.pointer (some ⟨S, 0, none⟩)] w fun en w' => ∃ o, en = .returned (optPtr A o) ∧ (∃ q, w' = w.drewN q) ∧ LeadIn (hd m d rem) (fun x => (d x).cut) (fun f t => f < n ∧ t < n) o := by
  have HM : Hid (Sim K w B n m A d S cs hs ix F0 F1 false LB RB lc rc lv ls now rem) := M
  have hn4 : n ≤ 4 := M.small.1
  have hn4' : (n : Int) ≤ 4 := by omega
  have hm := M.small.2
  have c134 := (M.q.blk.cell 134).trans M.c134
  clear M
  have HO : ∀ x y, Hid (x < m → y < m → x < 1024) := fun x y h1 _ => by omega
  go_enter Ybaf.func12, Ybaf.ntmps12
  go_wp2_with fail
  go_loopw [3, 13] (fun s3 i wx => ∃ (k q : Nat) (o : Option Nat), k ≤ n ∧ i = .int .i64 k ∧ s3 = optPtr A o ∧ wx = w.drewN q ∧ LeadIn (hd m d rem) (fun x => (d x).cut) (fun f t => f < k ∧ t < n) o) (fun _ i _ => n - (intOf i).toNat)
  case atStart => exact ⟨0, 0, none, Nat.zero_le _, rfl, rfl, rfl, LeadIn.empty (fun f t h => by omega)⟩
  case round =>
    obtain ⟨k, q, o, hk, rfl, rfl, hwx, hlead⟩ := hrel
    subst hwx
    have HL : Hid (LeadIn (hd m d rem) (fun x => (d x).cut) (fun f t => f < k ∧ t < n) o) := hlead
    clear hlead
    by_cases hkn : k < n
    · have hkn' : (k : Int) < n := by omega
      have hk0 : (0 : Int) ≤ k := by omega
      have cRow := (HM.out.l.lb.cell k).trans (HM.out.l.row k hkn)
      go_upto_block 2 with fail
      clear cRow c134
      go_wp2_with fail
      go_loopw [3, 19] (fun s3 i wx => ∃ (j q' : Nat) (o' : Option Nat), j ≤ n ∧ i = .int .i64 j ∧ s3 = optPtr A o' ∧ wx = w.drewN q' ∧ LeadIn (hd m d rem) (fun x => (d x).cut) (fun f t => (f < k ∧ t < n) ∨ (f = k ∧ t < j)) o') (fun _ i _ => n - (intOf i).toNat)
      case atStart => exact ⟨0, q, o, Nat.zero_le _, rfl, rfl, rfl, HL.out.congr (fun f t => ⟨.inl, fun h => by omega⟩)⟩
      case round =>
        obtain ⟨j, q', o', hj, rfl, rfl, hwx, hlead⟩ := hrel
        subst hwx
        have HL2 : Hid (LeadIn (hd m d rem) (fun x => (d x).cut) (fun f t => (f < k ∧ t < n) ∨ (f = k ∧ t < j)) o') := hlead
        clear hlead HL
        by_cases hjn : j < n
        · have hjn' : (j : Int) < n := by omega
          have hj0 : (0 : Int) ≤ j := by omega
          have HQ : Hid (∀ f t, ((f < k ∧ t < n) ∨ (f = k ∧ t < j + 1)) ↔ ((f < k ∧ t < n) ∨ (f = k ∧ t < j)) ∨ (f = k ∧ t = j)) := fun f t => by omega
          have cLink := ((HM.out.l.rb k hkn).cell j).trans (HM.out.l.cell k j hkn hjn)
          have hex := HM.out.exact_ rfl k j hkn hjn
          obtain ⟨⟨p, c, hv, hc1, hc2, hc3⟩, _⟩ := HM.out.l.at_ k j hkn hjn
          cases hl : ls k j with
          | nil =>
            rw [hv, hl] at cLink
            have HH : Hid (LeadIn (hd m d rem) (fun x => (d x).cut) (fun f t => (f < k ∧ t < n) ∨ (f = k ∧ t < j + 1)) o') := HL2.out.skip (fun y hy => by
              unfold hd at hy
              rw [← hex, hl] at hy
              cases hy) HQ.out
            clear hv hc1 hc2 hc3 hex hl
            go_upto_region 8 with fail
            go_quiet (fail)
            go_wp2_with fail
            exact ⟨⟨j + 1, _, o', hjn, rfl, rfl, rfl, HH.out⟩, by simp [intOf]; omega⟩
          | cons y rest =>
            have hyd : hd m d rem k j = some y := by
              unfold hd
              rw [← hex, hl]
              rfl
            obtain ⟨hym, hyr, hyf, hyt⟩ := hd_mem hyd
            rw [hl] at hv hc3
            obtain ⟨b, o2, cb, rfl, hb, hcb⟩ := hc3 (by simp)
            have cy : w.cell? ⟨b, o2, none⟩ = some (.pointer (some ⟨A y, 0, none⟩)) := (hb.cell o2).trans (by have := hcb 0 y rfl; rw [Nat.add_zero] at this; exact this)
            rw [hv] at cLink
            obtain ⟨len, hlen⟩ : ∃ len, len = (y :: rest).length := ⟨_, rfl⟩
            rw [← hlen] at cLink
            have hl0 : (0 : Int) < len := by rw [hlen]; simp
            have hl0n : decide (0 < len) = true := decide_eq_true (by omega)
            have hl0' : 0 < len := by omega
            have yb := HM.out.q.arr.blk y hym
            have HYB : Hid (Blk w (A y) (arrCells (d y) y (ix y)) 34) := yb
            have cy1 := (yb.cell 1).trans (show _ = some (.int .u64 (y : Int)) from rfl)
            have HYD : Hid (hd m d rem k j = some y) := hyd
            clear hv hc1 hc2 hc3 hex hl hb hcb hlen yb hyd
            cases hcy : (d y).cut with
            | false =>
              have ye : ∀ w', Blk w' (A y) (arrCells (d y) y (ix y)) 34 → Calls Ybaf.prog 20 #[.pointer (some ⟨A y, 0, none⟩)] w' fun en w'' => en = .returned (.bool false) ∧ w'' = w' := fun w' hb' => by
                have := ends_ok A d y (ix y) w' hb'
                rw [hcy] at this
                exact this
              have HH : Hid (LeadIn (hd m d rem) (fun x => (d x).cut) (fun f t => (f < k ∧ t < n) ∨ (f = k ∧ t < j + 1)) o') := HL2.out.skip (fun z hz => by
                have : y = z := Option.some.inj (HYD.out.symm.trans hz)
                rw [← this]
                exact hcy) HQ.out
              clear cy1
              go_upto_region 8 with fail
              go_quiet (first | (go_at_call 20; exact (ye _ (by exact HYB.out)).mono (fun e w'' h => ⟨h.1, _, h.2⟩)))
              go_wp2_with fail
              exact ⟨⟨j + 1, _, o', hjn, rfl, rfl, rfl, HH.out⟩, by simp [intOf]; omega⟩
            | true =>
              have ye : ∀ w', Blk w' (A y) (arrCells (d y) y (ix y)) 34 → Calls Ybaf.prog 20 #[.pointer (some ⟨A y, 0, none⟩)] w' fun en w'' => en = .returned (.bool true) ∧ w'' = w' := fun w' hb' => by
                have := ends_ok A d y (ix y) w' hb'
                rw [hcy] at this
                exact this
              cases o' with
              | none =>
                have HH : Hid (LeadIn (hd m d rem) (fun x => (d x).cut) (fun f t => (f < k ∧ t < n) ∨ (f = k ∧ t < j + 1)) (some y)) := HL2.out.take HYD.out hcy (fun x hx => by cases hx) HQ.out
                have ee := nil_eq_nil
                simp only [optPtr]
                go_upto_region 8 with fail
                go_quiet (first | (go_at_call 20; exact (ye _ (by exact HYB.out)).mono (fun e w'' h => ⟨h.1, _, h.2⟩)))
                go_wp2_with fail
                exact ⟨⟨j + 1, _, some y, hjn, rfl, rfl, rfl, HH.out⟩, by simp [intOf]; omega⟩
              | some x =>
                obtain ⟨⟨f1, t1, _, hx⟩, _, _⟩ := HL2.out
                obtain ⟨hxm, _, _, _⟩ := hd_mem hx
                have cx1 := ((HM.out.q.arr.blk x hxm).cell 1).trans (show _ = some (.int .u64 (x : Int)) from rfl)
                have ee := ptr_eq_nil ⟨A x, 0, none⟩
                clear hx
                by_cases hyx : y < x
                · have HH : Hid (LeadIn (hd m d rem) (fun x => (d x).cut) (fun f t => (f < k ∧ t < n) ∨ (f = k ∧ t < j + 1)) (some y)) := HL2.out.take HYD.out hcy (fun z hz => by rw [← Option.some.inj hz]; omega) HQ.out
                  have hyx' : (y : Int) < x := by omega
                  simp only [optPtr]
                  go_upto_region 8 with fail
                  go_quiet (first | (go_at_call 20; exact (ye _ (by exact HYB.out)).mono (fun e w'' h => ⟨h.1, _, h.2⟩)))
                  go_wp2_with fail
                  exact ⟨⟨j + 1, _, some y, hjn, rfl, rfl, rfl, HH.out⟩, by simp [intOf]; omega⟩
                · have HH : Hid (LeadIn (hd m d rem) (fun x => (d x).cut) (fun f t => (f < k ∧ t < n) ∨ (f = k ∧ t < j + 1)) (some x)) := HL2.out.keep HYD.out (by omega) HQ.out
                  have hyx' : ¬ (y : Int) < x := by omega
                  have hyxb : decide ((y : Int) < x) = false := decide_eq_false hyx'
                  simp only [optPtr]
                  go_upto_region 8 with fail
                  go_quiet (first | (go_at_call 20; exact (ye _ (by exact HYB.out)).mono (fun e w'' h => ⟨h.1, _, h.2⟩)))
                  go_wp2_with fail
                  exact ⟨⟨j + 1, _, some x, hjn, rfl, rfl, rfl, HH.out⟩, by simp [intOf]; omega⟩
        · obtain rfl : j = n := by omega
          have hjj : ¬ (j : Int) < j := by omega
          go_wp2_with fail
          exact ⟨⟨k + 1, q', o', hkn, rfl, rfl, rfl, HL2.out.congr (fun f t => by omega)⟩, by simp [intOf]; omega⟩
    · obtain rfl : k = n := by omega
      have hkk : ¬ (k : Int) < k := by omega
      go_wp2_with fail
      go_ret
      exact ⟨o, rfl, ⟨q, rfl⟩, HL.out⟩
end Go.Proofs.YbulkaryoFmt
