/-
  THE MEMORY OF A keptSequence: the arrays of bytes, the one block of entries, and how each step of 'add' turns them.
-/
import Derived.Test.YbulkaryoFrames
namespace Go.Proofs.Ybulkaryo
open Go.RowKit

theorem info62 : (Yba.prog.info? 62).map (fun i => (i.zero, i.size, i.bytes)) = some (some (.slice none 0 0), 1, 24) := by kernel_rfl
theorem info36 : (Yba.prog.info? 36).map (fun i => (i.zero, i.size, i.bytes)) = some (some (.slice none 0 0), 1, 24) := by kernel_rfl
theorem info77 : (Yba.prog.info? 77).map (fun i => (i.zero, i.size, i.bytes)) = some (some (.agg #[.int .i64 0, .int .u64 0, .int .i64 0, .int .u32 0, .int .u32 0, .int .u32 0]), 6, 40) := by kernel_rfl

/-- An entry: its sender, its count, its name, its body. -/
structure Ent where
  fr : Nat
  seq : Nat
  name : ByteArray
  body : List UInt8

/-- An entry that is kept: in which array its bytes lie, and from where on. -/
structure Kep where
  e : Ent
  ai : Nat
  pos : Nat

/-- The cells of a keptEntry. -/
def Kep.cells (x : Kep) : List Value := [.int .i64 x.e.fr, .int .u64 x.e.seq, .int .i64 x.ai, .int .u32 x.pos, .int .u32 x.e.name.size, .int .u32 x.e.body.length]
theorem Kep.cells_length (x : Kep) : x.cells.length = 6 := rfl

/-- Two rows lie in two blocks. -/
def Apart (x y : Value) : Prop := ∀ k, x.ownBlock = some k → y.ownBlock ≠ some k
theorem Apart.symm {x y : Value} (h : Apart x y) : Apart y x := fun k hy hx => h k hx hy

/-- Its bytes lie there. -/
def Kep.ok (arrs : List (Value × List UInt8)) (x : Kep) : Prop :=
  ∃ p, arrs[x.ai]? = some p ∧ x.pos + x.e.name.size + x.e.body.length ≤ p.2.length ∧ (p.2.drop x.pos).take (x.e.name.size + x.e.body.length) = x.e.name.data.toList ++ x.e.body

/-- THE MEMORY OF A keptSequence inside block P (a total's), its rows in blocks from B on. -/
structure Kept (w : World) (B P : Nat) (cs : Array Value) (va vb ve : Value) (made : Bool) (arrs : List (Value × List UInt8)) (es : List Kep) : Prop where
  low : P < B
  pb : Blk w P cs 48
  big : 36 ≤ cs.size
  rel : cs[9]? = some (.int .u64 0)
  hd : cs[11]? = some (.int .i64 0)
  sp : cs[12]? = some (.slice none 0 0)
  dr : cs[14]? = some (.int .i64 0)
  c13 : cs[13]? = some va
  c10 : cs[10]? = some vb
  ownA : w.ownsRow B 62 1 va arrs.length (arrs.map (·.1))
  ownX : ∀ p ∈ arrs, w.ownsRow B 5 1 p.1 p.2.length (Lib.byteCells p.2)
  ownB : if made = true then w.ownsRow B 36 1 vb 1 [ve] else (vb = .slice none 0 0 ∧ ve = .slice none 0 0 ∧ es = [])
  ownE : w.ownsRow B 77 6 ve es.length (es.flatMap Kep.cells)
  apAB : Apart va vb
  apAE : Apart va ve
  apBE : Apart vb ve
  apXA : ∀ p ∈ arrs, Apart p.1 va
  apXB : ∀ p ∈ arrs, Apart p.1 vb
  apXE : ∀ p ∈ arrs, Apart p.1 ve
  apXX : arrs.Pairwise fun p q => Apart p.1 q.1
  ok : ∀ x ∈ es, x.ok arrs

section
variable {w : World} {B P : Nat} {cs : Array Value} {va vb ve : Value} {made : Bool} {arrs : List (Value × List UInt8)} {es : List Kep}

theorem Kept.ltB (h : Kept w B P cs va vb ve made arrs es) : ∀ k, vb.ownBlock = some k → B ≤ k ∧ k < w.heap.size := by
  have hb := h.ownB
  cases made with
  | true => exact owns_lt (by simpa using hb)
  | false =>
    obtain ⟨rfl, _⟩ : vb = .slice none 0 0 ∧ _ := by simpa using hb
    intro k hk
    cases hk

/-- Behind a draw. -/
theorem Kept.drew (h : Kept w B P cs va vb ve made arrs es) : Kept w.drew B P cs va vb ve made arrs es := ⟨h.low, h.pb, h.big, h.rel, h.hd, h.sp, h.dr, h.c13, h.c10, h.ownA, h.ownX, h.ownB, h.ownE, h.apAB, h.apAE, h.apBE, h.apXA, h.apXB, h.apXE, h.apXX, h.ok⟩

/-- Where neither P nor any row has turned. -/
theorem Kept.frm {S : Nat → Prop} {w' : World} (h : Kept w B P cs va vb ve made arrs es) (hf : Frm S w w') (hP : ¬ S P) (hS : ∀ k, B ≤ k → k < w.heap.size → ¬ S k) : Kept w' B P cs va vb ve made arrs es where
  low := h.low
  pb := hf.blk h.pb hP
  big := h.big
  rel := h.rel
  hd := h.hd
  sp := h.sp
  dr := h.dr
  c13 := h.c13
  c10 := h.c10
  ownA := hf.owns h.ownA fun k hk => hS k (owns_lt h.ownA k hk).1 (owns_lt h.ownA k hk).2
  ownX := fun p hp => hf.owns (h.ownX p hp) fun k hk => hS k (owns_lt (h.ownX p hp) k hk).1 (owns_lt (h.ownX p hp) k hk).2
  ownB := by
    have hb := h.ownB
    cases made with
    | true =>
      simp only [if_true] at hb ⊢
      exact hf.owns hb fun k hk => hS k (owns_lt hb k hk).1 (owns_lt hb k hk).2
    | false => exact hb
  ownE := hf.owns h.ownE fun k hk => hS k (owns_lt h.ownE k hk).1 (owns_lt h.ownE k hk).2
  apAB := h.apAB
  apAE := h.apAE
  apBE := h.apBE
  apXA := h.apXA
  apXB := h.apXB
  apXE := h.apXE
  apXX := h.apXX
  ok := h.ok

/-- Only the block of the row v may have turned. -/
theorem apart_frm {S : Nat → Prop} {w' : World} {v x : Value} {e : TypeId} {size n : Nat} {xs : List Value} (hf : Frm S w w') (hs : ∀ k, S k → v.ownBlock = some k) (ho : w.ownsRow B e size x n xs) (ha : Apart x v) : w'.ownsRow B e size x n xs :=
  hf.owns ho fun k hk hk' => ha k hk (hs k hk')

/-- A NEW ARRAY, empty, behind the others; its row is stored into P. -/
theorem Kept.newArray {w1 : World} {va' x : Value} (h : Kept w B P cs va vb ve made arrs es) (hf : Frm (fun k => va.ownBlock = some k) w w1)
    (hA : w1.ownsRow B 62 1 va' (arrs.length + 1) (arrs.map (·.1) ++ [x])) (hat : va'.ownBlock = va.ownBlock ∨ ∃ k, va'.ownBlock = some k ∧ w.heap.size + 1 ≤ k)
    (hX : w1.ownsRow B 5 1 x 0 []) (hx : x.ownBlock = some w.heap.size) :
    Kept (w1.setCell ⟨P, 13, none⟩ va') B P (cs.setIfInBounds 13 va') va' vb ve made (arrs ++ [(x, [])]) es := by
  have hlow := h.low
  have hnA : ¬ va.ownBlock = some P := fun e => by have := (owns_lt h.ownA P e).1; omega
  have hp1 := (hf.blk h.pb hnA).same 13 va'
  have hf2 : Frm (fun k => k = P) w1 (w1.setCell ⟨P, 13, none⟩ va') := (Frm.refl _ _).setCell _ _ (fun _ => rfl)
  have hk : ∀ {e : TypeId} {size n : Nat} {v : Value} {xs : List Value}, w1.ownsRow B e size v n xs → (w1.setCell ⟨P, 13, none⟩ va').ownsRow B e size v n xs := fun ho => hf2.owns ho fun k hk e => by have := (owns_lt ho k hk).1; omega
  have fresh : ∀ {e : TypeId} {size n : Nat} {v : Value} {xs : List Value}, w.ownsRow B e size v n xs → Apart v va → Apart v va' := fun ho ha k hk hk' => by
    rcases hat with e | ⟨m, e, hm⟩
    · exact ha k hk (e ▸ hk')
    · have := (owns_lt ho k hk).2
      have : m = k := Option.some.inj (e.symm.trans hk')
      omega
  have freshX : ∀ {e : TypeId} {size n : Nat} {v : Value} {xs : List Value}, w.ownsRow B e size v n xs → Apart v x := fun ho k hk hk' => by
    have := (owns_lt ho k hk).2
    have : w.heap.size = k := Option.some.inj (hx.symm.trans hk')
    omega
  have hXA : Apart x va' := fun k hk hk' => by
    have hk0 : w.heap.size = k := Option.some.inj (hx.symm.trans hk)
    rcases hat with e | ⟨m, e, hm⟩
    · have := (owns_lt h.ownA k (e ▸ hk')).2
      omega
    · have : m = k := Option.some.inj (e.symm.trans hk')
      omega
  have hB := h.ownB
  exact {
    low := hlow
    pb := hp1
    big := by rw [Array.size_setIfInBounds]; exact h.big
    rel := by rw [Array.getElem?_setIfInBounds_ne (by decide)]; exact h.rel
    hd := by rw [Array.getElem?_setIfInBounds_ne (by decide)]; exact h.hd
    sp := by rw [Array.getElem?_setIfInBounds_ne (by decide)]; exact h.sp
    dr := by rw [Array.getElem?_setIfInBounds_ne (by decide)]; exact h.dr
    c13 := by rw [Array.getElem?_setIfInBounds_self_of_lt]; have := h.big; omega
    c10 := by rw [Array.getElem?_setIfInBounds_ne (by decide)]; exact h.c10
    ownA := by simpa using hk hA
    ownX := fun p hp => by
      rcases List.mem_append.1 hp with hp | hp
      · exact hk (apart_frm hf (fun _ e => e) (h.ownX p hp) (h.apXA p hp))
      · obtain rfl : p = (x, []) := by simpa using hp
        exact hk hX
    ownB := by
      cases made with
      | true =>
        simp only [if_true] at hB ⊢
        exact hk (apart_frm hf (fun _ e => e) hB h.apAB.symm)
      | false => exact hB
    ownE := hk (apart_frm hf (fun _ e => e) h.ownE h.apAE.symm)
    apAB := by
      cases made with
      | true => exact (fresh (by simpa using hB) h.apAB.symm).symm
      | false =>
        obtain ⟨rfl, _⟩ : vb = .slice none 0 0 ∧ _ := by simpa using hB
        intro k _ e
        cases e
    apAE := (fresh h.ownE h.apAE.symm).symm
    apBE := h.apBE
    apXA := fun p hp => by
      rcases List.mem_append.1 hp with hp | hp
      · exact fresh (h.ownX p hp) (h.apXA p hp)
      · obtain rfl : p = (x, []) := by simpa using hp
        exact hXA
    apXB := fun p hp => by
      rcases List.mem_append.1 hp with hp | hp
      · exact h.apXB p hp
      · obtain rfl : p = (x, []) := by simpa using hp
        cases made with
        | true => exact (freshX (by simpa using hB)).symm
        | false =>
          obtain ⟨rfl, _⟩ : vb = .slice none 0 0 ∧ _ := by simpa using hB
          intro k _ e
          cases e
    apXE := fun p hp => by
      rcases List.mem_append.1 hp with hp | hp
      · exact h.apXE p hp
      · obtain rfl : p = (x, []) := by simpa using hp
        exact (freshX h.ownE).symm
    apXX := by
      refine List.pairwise_append.2 ⟨h.apXX, by simp, fun p hp q hq => ?_⟩
      obtain rfl : q = (x, []) := by simpa using hq
      exact freshX (h.ownX p hp)
    ok := fun y hy => by
      obtain ⟨p, h1, h2⟩ := h.ok y hy
      refine ⟨p, ?_, h2⟩
      rw [List.getElem?_append_left (List.getElem?_eq_some_iff.1 h1).1]
      exact h1 }

/-- One element of a row of one's own is stored anew. -/
theorem owns_set {e : TypeId} {g n cap i : Nat} {xs : List Value} (h : w.ownsRow B e 1 (.slice (some ⟨g, 0, none⟩) n cap) n xs) (v : Value) :
    (w.setCell ⟨g, i, none⟩ v).ownsRow B e 1 (.slice (some ⟨g, 0, none⟩) n cap) n (xs.set i v) := by
  refine ⟨by rw [List.length_set]; exact h.1, .inr ?_⟩
  rcases h.2 with ⟨h0, _⟩ | ⟨g', cap', cur, hv, hb, hg, hn, hc, hs, ht⟩
  · cases h0
  · cases hv
    refine ⟨g, cap, cur.setIfInBounds i v, rfl, hb, Blk.same (t := e) hg i v, hn, hc, by rw [Array.size_setIfInBounds]; exact hs, ?_⟩
    rw [Array.toList_setIfInBounds, List.take_set, ht]

/-- MORE BYTES behind the last array's; its new row is stored into the row of arrays. -/
theorem Kept.extend {w1 : World} {init : List (Value × List UInt8)} {x x' : Value} {bs more : List UInt8} {ba n cap : Nat} (h : Kept w B P cs va vb ve made (init ++ [(x, bs)]) es)
    (hva : va = .slice (some ⟨ba, 0, none⟩) n cap) (hg : Grew x w x' w1) (hX : w1.ownsRow B 5 1 x' (bs ++ more).length (Lib.byteCells (bs ++ more))) :
    Kept (w1.setCell ⟨ba, init.length, none⟩ x') B P cs va vb ve made (init ++ [(x', bs ++ more)]) es := by
  have hlow := h.low
  have hmx : (x, bs) ∈ init ++ [(x, bs)] := by simp
  have hox := h.ownX _ hmx
  have hba : va.ownBlock = some ba := by rw [hva]; rfl
  have hbaB := (owns_lt h.ownA ba hba)
  have hf2 : Frm (fun k => va.ownBlock = some k) w1 (w1.setCell ⟨ba, init.length, none⟩ x') := (Frm.refl _ _).setCell _ _ (fun _ => hba)
  have hk : ∀ {e : TypeId} {size n : Nat} {v : Value} {xs : List Value}, w1.ownsRow B e size v n xs → Apart v va → (w1.setCell ⟨ba, init.length, none⟩ x').ownsRow B e size v n xs := fun ho ha => apart_frm hf2 (fun _ e => e) ho ha
  have h1 : ∀ {e : TypeId} {size n : Nat} {v : Value} {xs : List Value}, w.ownsRow B e size v n xs → Apart v x → w1.ownsRow B e size v n xs := fun ho ha => apart_frm hg.1 (fun _ e => e) ho ha
  have fresh : ∀ {e : TypeId} {size n : Nat} {v : Value} {xs : List Value}, w.ownsRow B e size v n xs → Apart v x → Apart v x' := fun ho ha k hk hk' => by
    rcases hg.2 with e | ⟨m, e, hm⟩
    · exact ha k hk (e ▸ hk')
    · have := (owns_lt ho k hk).2
      have : m = k := Option.some.inj (e.symm.trans hk')
      omega
  have hAx : Apart va x := (h.apXA _ hmx).symm
  have hpw := List.pairwise_append.1 h.apXX
  have hix : ∀ p ∈ init, Apart p.1 x := fun p hp => hpw.2.2 p hp (x, bs) (by simp)
  have hlen : n = init.length + 1 := by
    have := h.ownA
    rw [hva] at this
    rcases this.2 with ⟨h0, _⟩ | ⟨g', cap', cur, hv, _⟩
    · cases h0
    · cases hv
      simp
  have hB := h.ownB
  have hP : ¬ x.ownBlock = some P := fun e => by have := (owns_lt hox P e).1; omega
  have hPa : ¬ va.ownBlock = some P := fun e => by have := (owns_lt h.ownA P e).1; omega
  exact {
    low := hlow
    pb := hf2.blk (hg.1.blk h.pb hP) hPa
    big := h.big
    rel := h.rel
    hd := h.hd
    sp := h.sp
    dr := h.dr
    c13 := h.c13
    c10 := h.c10
    ownA := by
      have h2 := h1 h.ownA hAx
      rw [hva] at h2 ⊢
      have e1 : (init ++ [(x, bs)]).length = n := by simp [hlen]
      rw [e1] at h2
      have h3 := owns_set h2 (i := init.length) x'
      have e2 : (init ++ [(x', bs ++ more)]).length = n := by simp [hlen]
      rw [e2]
      have e3 : ((init ++ [(x, bs)]).map (·.1)).set init.length x' = (init ++ [(x', bs ++ more)]).map (·.1) := by
        rw [List.map_append, List.map_append, List.set_append]
        simp
      rw [e3] at h3
      exact h3
    ownX := fun p hp => by
      rcases List.mem_append.1 hp with hp | hp
      · exact hk (h1 (h.ownX p (List.mem_append_left _ hp)) (hix p hp)) (h.apXA p (List.mem_append_left _ hp))
      · obtain rfl : p = (x', bs ++ more) := by simpa using hp
        exact hk hX ((fresh h.ownA hAx).symm)
    ownB := by
      cases made with
      | true =>
        simp only [if_true] at hB ⊢
        exact hk (h1 hB (h.apXB _ hmx).symm) h.apAB.symm
      | false => exact hB
    ownE := hk (h1 h.ownE (h.apXE _ hmx).symm) h.apAE.symm
    apAB := h.apAB
    apAE := h.apAE
    apBE := h.apBE
    apXA := fun p hp => by
      rcases List.mem_append.1 hp with hp | hp
      · exact h.apXA p (List.mem_append_left _ hp)
      · obtain rfl : p = (x', bs ++ more) := by simpa using hp
        exact (fresh h.ownA hAx).symm
    apXB := fun p hp => by
      rcases List.mem_append.1 hp with hp | hp
      · exact h.apXB p (List.mem_append_left _ hp)
      · obtain rfl : p = (x', bs ++ more) := by simpa using hp
        cases made with
        | true => exact (fresh (by simpa using hB) (h.apXB _ hmx).symm).symm
        | false =>
          obtain ⟨rfl, _⟩ : vb = .slice none 0 0 ∧ _ := by simpa using hB
          intro k _ e
          cases e
    apXE := fun p hp => by
      rcases List.mem_append.1 hp with hp | hp
      · exact h.apXE p (List.mem_append_left _ hp)
      · obtain rfl : p = (x', bs ++ more) := by simpa using hp
        exact (fresh h.ownE (h.apXE _ hmx).symm).symm
    apXX := by
      refine List.pairwise_append.2 ⟨hpw.1, by simp, fun p hp q hq => ?_⟩
      obtain rfl : q = (x', bs ++ more) := by simpa using hq
      exact fresh (h.ownX p (List.mem_append_left _ hp)) (hix p hp)
    ok := fun y hy => by
      obtain ⟨p, h1, h2, h3⟩ := h.ok y hy
      by_cases hl : y.ai < init.length
      · refine ⟨p, ?_, h2, h3⟩
        rw [List.getElem?_append_left hl] at h1 ⊢
        exact h1
      · have hy2 := (List.getElem?_eq_some_iff.1 h1).1
        have hyi : y.ai = init.length := by simp at hy2; omega
        rw [hyi] at h1
        obtain rfl : (x, bs) = p := by simpa using h1
        refine ⟨(x', bs ++ more), by rw [hyi]; simp, by simp at h2 ⊢; omega, ?_⟩
        simp only at h2 h3 ⊢
        rw [List.drop_append_of_le_length (by omega), List.take_append_of_le_length (by simp; omega)]
        exact h3 }

/-- THE BLOCK OF ENTRIES is made: stored into P. -/
theorem Kept.newBlock {w1 : World} {vb' x : Value} (h : Kept w B P cs va vb ve false arrs es) (hf : Frm (fun _ => False) w w1)
    (hB : w1.ownsRow B 36 1 vb' 1 [x]) (hb : ∃ k, vb'.ownBlock = some k ∧ w.heap.size + 1 ≤ k) (hX : w1.ownsRow B 77 6 x 0 []) (hx : x.ownBlock = some w.heap.size) :
    Kept ((w1.setCell ⟨P, 10, none⟩ vb').setCell ⟨P, 12, none⟩ (.slice none 0 0)) B P ((cs.setIfInBounds 10 vb').setIfInBounds 12 (.slice none 0 0)) va vb' x true arrs es := by
  have hlow := h.low
  have hfb := h.ownB
  obtain ⟨rfl, rfl, rfl⟩ : vb = .slice none 0 0 ∧ ve = .slice none 0 0 ∧ es = [] := by simpa using hfb
  have hf2 : Frm (fun k => k = P) w1 ((w1.setCell ⟨P, 10, none⟩ vb').setCell ⟨P, 12, none⟩ (.slice none 0 0)) :=
    Frm.setCell (Frm.setCell (Frm.refl (fun k => k = P) w1) ⟨P, 10, none⟩ vb' (fun _ => rfl)) ⟨P, 12, none⟩ (.slice none 0 0) (fun _ => rfl)
  have hk : ∀ {e : TypeId} {size n : Nat} {v : Value} {xs : List Value}, w1.ownsRow B e size v n xs → ((w1.setCell ⟨P, 10, none⟩ vb').setCell ⟨P, 12, none⟩ (.slice none 0 0)).ownsRow B e size v n xs := fun ho => hf2.owns ho fun k hk e => by have := (owns_lt ho k hk).1; omega
  have h1 : ∀ {e : TypeId} {size n : Nat} {v : Value} {xs : List Value}, w.ownsRow B e size v n xs → w1.ownsRow B e size v n xs := fun ho => hf.owns ho fun _ _ => id
  obtain ⟨kb, hkb, hkb'⟩ := hb
  have frB : ∀ {e : TypeId} {size n : Nat} {v : Value} {xs : List Value}, w.ownsRow B e size v n xs → Apart v vb' := fun ho k hk hk' => by
    have := (owns_lt ho k hk).2
    have : kb = k := Option.some.inj (hkb.symm.trans hk')
    omega
  have frX : ∀ {e : TypeId} {size n : Nat} {v : Value} {xs : List Value}, w.ownsRow B e size v n xs → Apart v x := fun ho k hk hk' => by
    have := (owns_lt ho k hk).2
    have : w.heap.size = k := Option.some.inj (hx.symm.trans hk')
    omega
  exact {
    low := hlow
    pb := ((hf.blk h.pb id).same 10 vb').same 12 _
    big := by rw [Array.size_setIfInBounds, Array.size_setIfInBounds]; exact h.big
    rel := by rw [Array.getElem?_setIfInBounds_ne (by decide), Array.getElem?_setIfInBounds_ne (by decide)]; exact h.rel
    hd := by rw [Array.getElem?_setIfInBounds_ne (by decide), Array.getElem?_setIfInBounds_ne (by decide)]; exact h.hd
    sp := by rw [Array.getElem?_setIfInBounds_self_of_lt]; rw [Array.size_setIfInBounds]; have := h.big; omega
    dr := by rw [Array.getElem?_setIfInBounds_ne (by decide), Array.getElem?_setIfInBounds_ne (by decide)]; exact h.dr
    c13 := by rw [Array.getElem?_setIfInBounds_ne (by decide), Array.getElem?_setIfInBounds_ne (by decide)]; exact h.c13
    c10 := by rw [Array.getElem?_setIfInBounds_ne (by decide), Array.getElem?_setIfInBounds_self_of_lt]; have := h.big; omega
    ownA := hk (h1 h.ownA)
    ownX := fun p hp => hk (h1 (h.ownX p hp))
    ownB := by
      simp only [if_true]
      exact hk hB
    ownE := hk hX
    apAB := frB h.ownA
    apAE := frX h.ownA
    apBE := fun k hk hk' => by
      have e1 : kb = k := Option.some.inj (hkb.symm.trans hk)
      have e2 : w.heap.size = k := Option.some.inj (hx.symm.trans hk')
      omega
    apXA := h.apXA
    apXB := fun p hp => frB (h.ownX p hp)
    apXE := fun p hp => frX (h.ownX p hp)
    apXX := h.apXX
    ok := fun y hy => by cases hy }

/-- ONE ENTRY MORE in the block. -/
theorem Kept.push {w1 : World} {ve' : Value} {bb cap : Nat} {y : Kep} (h : Kept w B P cs va vb ve true arrs es) (hvb : vb = .slice (some ⟨bb, 0, none⟩) 1 cap) (hg : Grew ve w ve' w1)
    (hE : w1.ownsRow B 77 6 ve' (es.length + 1) (es.flatMap Kep.cells ++ y.cells)) (hy : y.ok arrs) :
    Kept (w1.setCell ⟨bb, 0, none⟩ ve') B P cs va vb ve' true arrs (es ++ [y]) := by
  have hlow := h.low
  have hB : w.ownsRow B 36 1 vb 1 [ve] := by have := h.ownB; simpa using this
  have hbb : vb.ownBlock = some bb := by rw [hvb]; rfl
  have hf2 : Frm (fun k => vb.ownBlock = some k) w1 (w1.setCell ⟨bb, 0, none⟩ ve') := (Frm.refl _ _).setCell _ _ (fun _ => hbb)
  have hk : ∀ {e : TypeId} {size n : Nat} {v : Value} {xs : List Value}, w1.ownsRow B e size v n xs → Apart v vb → (w1.setCell ⟨bb, 0, none⟩ ve').ownsRow B e size v n xs := fun ho ha => apart_frm hf2 (fun _ e => e) ho ha
  have h1 : ∀ {e : TypeId} {size n : Nat} {v : Value} {xs : List Value}, w.ownsRow B e size v n xs → Apart v ve → w1.ownsRow B e size v n xs := fun ho ha => apart_frm hg.1 (fun _ e => e) ho ha
  have fresh : ∀ {e : TypeId} {size n : Nat} {v : Value} {xs : List Value}, w.ownsRow B e size v n xs → Apart v ve → Apart v ve' := fun ho ha k hk hk' => by
    rcases hg.2 with e | ⟨m, e, hm⟩
    · exact ha k hk (e ▸ hk')
    · have := (owns_lt ho k hk).2
      have : m = k := Option.some.inj (e.symm.trans hk')
      omega
  have hPe : ¬ ve.ownBlock = some P := fun e => by have := (owns_lt h.ownE P e).1; omega
  have hPb : ¬ vb.ownBlock = some P := fun e => by have := (owns_lt hB P e).1; omega
  exact {
    low := hlow
    pb := hf2.blk (hg.1.blk h.pb hPe) hPb
    big := h.big
    rel := h.rel
    hd := h.hd
    sp := h.sp
    dr := h.dr
    c13 := h.c13
    c10 := h.c10
    ownA := hk (h1 h.ownA h.apAE) h.apAB
    ownX := fun p hp => hk (h1 (h.ownX p hp) (h.apXE p hp)) (h.apXB p hp)
    ownB := by
      simp only [if_true]
      have h2 := h1 hB h.apBE
      rw [hvb] at h2 ⊢
      exact owns_set h2 (i := 0) ve'
    ownE := by
      rw [List.flatMap_append, List.length_append]
      simpa using hk hE ((fresh hB h.apBE).symm)
    apAB := h.apAB
    apAE := fresh h.ownA h.apAE
    apBE := fresh hB h.apBE
    apXA := h.apXA
    apXB := h.apXB
    apXE := fun p hp => fresh (h.ownX p hp) (h.apXE p hp)
    apXX := h.apXX
    ok := fun z hz => by
      rcases List.mem_append.1 hz with hz | hz
      · exact h.ok z hz
      · obtain rfl : z = y := by simpa using hz
        exact hy }

end

end Go.Proofs.Ybulkaryo
