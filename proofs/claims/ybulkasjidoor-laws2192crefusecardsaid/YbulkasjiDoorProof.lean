/-
  THE PROOF OF 'Rows.LawS2192CRefuseCardSaid': the row out of the walk, then the tied card by the builder's one call. (After the guide's worked texts for a sentinel under 'laid' in a plain row, and for a tied card.)
-/
import Derived.Test.YbulkasjiDoorRows
import Derived.Test.YbulkasjiDoorTie
import Derived.Test.YbulkasjiDoorCards
import Derived.Test.YbulkasjiDoorLaw
import Derived.ProofKit
import Derived.Stop.LaidErr
import Derived.Stop.ErrReads
import Derived.OpenShut
import Derived.SevenTiedAt
namespace Go.Proofs.YbulkasjiDoor.lawS2192CRefuse
open Go.ChangeShapes Go.WideShapes Go.ChangeAt Go.RowKit
open Go.Proofs.YbulkasjiDoor

theorem own : ownKnob Ybad.prog.godebug = none := by kernel_rfl
theorem gEType : (Ybad.prog.globals[0]?).map (·.type) = some 32 := by kernel_rfl
theorem cells146 : Ybad.prog.cellsOf 146 = 1 := by kernel_rfl
theorem cells9 : Ybad.prog.cellsOf 9 = 1 := by kernel_rfl
theorem row102 (u : TypeId) (h : Ybad.prog.typeName? 3 u = Ybad.prog.typeName? 3 102) : u = 102 :=
  typeName_ptr_named (nm := "errors.errorString") (by kernel_rfl) (by kernel_rfl) (by decide) u (h.trans (by kernel_rfl))

-- '!=' between the sentinel and itself.
theorem neq_same (a : Addr) (w : World) : (binOp .neq 32 (.iface 102 (.pointer (some a))) (.iface 102 (.pointer (some a)))).run Ybad.prog w = .ok (.bool false) w := by
  have h := run_equalIn_iface_ptr_same (P := Ybad.prog) w 9998 a Ybad.underlying32 Ybad.underlying102 (i := Ybad.t102) (j := Ybad.t146) (by kernel_rfl) (by kernel_rfl) (by kernel_rfl)
  simp only [binOp]
  simp [Op.equal, Op.maxDepth, h]

theorem var_below {W W' : World} {n : String} {cs : Array Value} (gE : Ybad.prog.globalNamed n = some 0) (h : W.var? Ybad.prog n = some cs) (hb : Below W.heap.size W W') : W'.var? Ybad.prog n = some cs := by
  unfold World.var? at h ⊢
  rw [gE] at h ⊢
  simp only [Option.bind_some] at h ⊢
  have hlt : 0 < W.heap.size := by
    rcases Nat.lt_or_ge 0 W.heap.size with h' | h'
    · exact h'
    · rw [Array.getElem?_eq_none h'] at h; cases h
  rw [hb.block 0 hlt]
  exact h

theorem laid_met (os : Os) (args : Array Value) : laidMet Ybad.prog Rows.lawS2192CRefuseRow.laid (({ (World.holding Ybad.prog os ⟨#[.cells #[.string ⟨#[119, 111, 114, 107, 104, 101, 105, 115, 116, 58, 32, 115, 99, 104, 101, 100, 117, 108, 101, 114, 32, 105, 115, 32, 99, 108, 111, 115, 101, 100]⟩] 146], #[], []⟩) with heap := (World.holding Ybad.prog os ⟨#[.cells #[.string ⟨#[119, 111, 114, 107, 104, 101, 105, 115, 116, 58, 32, 115, 99, 104, 101, 100, 117, 108, 101, 114, 32, 105, 115, 32, 99, 108, 111, 115, 101, 100]⟩] 146], #[], []⟩).heap.modify 0 fun | .cells _ t frozen => .cells #[.iface 102 (.pointer (some ⟨(World.holding Ybad.prog default ⟨#[], #[], []⟩).heap.size, 0, none⟩))] t frozen | o => o } : World).forCall (fun _ _ => 0) ⟨#[], args, []⟩).memory :=
  laidMet_of_run (ps := [.cell 0 0, .cell (World.holding Ybad.prog default ⟨#[], #[], []⟩).heap.size 0]) 8 (by kernel_rfl) (by kernel_rfl) (by kernel_rfl)

set_option maxRecDepth 100000 in
theorem lifted (os : Os) (started : os.Started) (H : Type) (enc : TypeId × Value → H) :
    ReturnsInHanded {} Ybad.checked os 3 .any (fun w args => (Rows.lawS2192CRefuseSpec.pre enc Ybad.prog Ybad.f3 [] false w args ∧ laidMet Ybad.prog Rows.lawS2192CRefuseRow.laid w) ∧ sizedMet enc Ybad.prog Ybad.f3 (OpenSpec.ofChange Rows.lawS2192CRefuseSpec) false w args)
      (Rows.lawS2192CRefuseSpec.post enc Ybad.prog Ybad.f3 false true false false) := by
  refine returnsInHanded_of_change_and (C := Ybad.checked) (X := fun w _ => laidMet Ybad.prog Rows.lawS2192CRefuseRow.laid w) (fun _ _ _ hh h => h.of_heap hh) own started (by kernel_rfl) Ybad.func3
    (ChangeSpec.witness_at (enc := enc) (C := Ybad.checked) (os := os) (X := fun w _ => laidMet Ybad.prog Rows.lawS2192CRefuseRow.laid w) false ({ (World.holding Ybad.prog os ⟨#[.cells #[.string ⟨#[119, 111, 114, 107, 104, 101, 105, 115, 116, 58, 32, 115, 99, 104, 101, 100, 117, 108, 101, 114, 32, 105, 115, 32, 99, 108, 111, 115, 101, 100]⟩] 146], #[], []⟩) with heap := (World.holding Ybad.prog os ⟨#[.cells #[.string ⟨#[119, 111, 114, 107, 104, 101, 105, 115, 116, 58, 32, 115, 99, 104, 101, 100, 117, 108, 101, 114, 32, 105, 115, 32, 99, 108, 111, 115, 101, 100]⟩] 146], #[], []⟩).heap.modify 0 fun | .cells _ t frozen => .cells #[.iface 102 (.pointer (some ⟨(World.holding Ybad.prog default ⟨#[], #[], []⟩).heap.size, 0, none⟩))] t frozen | o => o } : World) #[.int .u16 0, .int .i32 0, .bool false] 8 rfl (by kernel_rfl) (by kernel_rfl) (by kernel_rfl) (by kernel_rfl) (by kernel_rfl) (laid_met os _)) ?_
  intro W base args ds gs before hval0 hW _ _ hL _
  have hval : ∀ (j : Nat) t v, Ybad.f3.params[j]? = some t → args[j]? = some v → Value.okWide Ybad.prog W .any base t v := hval0
  have hW' := hW
  obtain ⟨p, q, hA0, hV0, rfl, hfz, hnd⟩ := hW
  have hA : DataW.TrodAll enc Ybad.prog W 0 (fun _ => true) true Ybad.f3.params.toList args.toList ds p := hA0
  have hV : DataW.TrodVars enc Ybad.prog W (fun _ => true) Rows.lawS2192CRefuseSpec.vars gs q := hV0
  rw [Ybad.params3] at hA hval
  obtain ⟨v0, v1, v2, d0, d1, d2, p0, p1, p2, rfl, rfl, rfl, h0, h1, h2⟩ := trodAll_three hA
  obtain ⟨n, rfl, rfl, rfl, wn⟩ := open_int Ybad.underlying22 (hval 0 22 v0 rfl rfl) h0
  obtain ⟨st, rfl, rfl, rfl, wst⟩ := open_int Ybad.underlying21 (hval 1 21 v1 rfl rfl) h1
  obtain ⟨cl, rfl, rfl, rfl⟩ := open_bool Ybad.underlying4 (hval 2 4 v2 rfl rfl) h2
  obtain ⟨a0, s0, hv0, hc0, hs0, hz0⟩ := laid_sentinel hL (by kernel_rfl : _ = some 0) gEType Ybad.underlying32 (fun u hu => row102 u (hu.trans (by kernel_rfl))) Ybad.underlying102 Ybad.underlying146 rfl rfl Ybad.underlying9 cells146 cells9
  obtain ⟨rfl, rfl⟩ := hV.unique (vars_read1 enc (by kernel_rfl : _ = some 0) gEType Ybad.underlying32 hv0 trivial _)
  clear hA0 hV0 hval0
  have hg0 : W.cell? ⟨0, 0, none⟩ = some (.iface 102 (.pointer (some a0))) := by simpa using World.var?_cell (g := 0) (by kernel_rfl) hv0 0
  have h00 : 0 < W.heap.size := World.block_lt_of_cell? _ _ hg0
  have hwalk : Calls Ybad.prog 3 #[.int .u16 n, .int .i32 st, .bool cl] W fun e w' => e = .returned (.bool true) ∧ Below W.heap.size W w' := by
    have bn := bounds_u16 wn
    obtain ⟨m, rfl⟩ := Int.eq_ofNat_of_zero_le bn.1
    rcases Nat.lt_or_ge 1024 m with h | h
    · exact law_big m st cl W h
    · exact law_small m st cl W h 102 (.pointer (some a0)) h00 hg0 (neq_same a0)
  refine hwalk.mono fun e W' ⟨he, bel⟩ => ?_
  subst he
  refine ⟨_, rfl, _, _, _, [], [] ++ ([] ++ []), [.cell 0 0], hW', ?_, ?_, ?_, bel.frame _, fun h => by cases h⟩
  · exact trodAll_mk1 (shut_bool Ybad.underlying4 true)
  · exact trodAll_mk3 (shut_int Ybad.underlying22 wn) (shut_int Ybad.underlying21 wst) (shut_bool Ybad.underlying4 cl)
  · exact vars_read1 enc (by kernel_rfl : _ = some 0) gEType Ybad.underlying32 (var_below (by kernel_rfl) hv0 bel) trivial _

theorem row_holds : Rows.LawS2192CRefuseSaid :=
  OpenClaim.holds_of_wide 3 Ybad.f3 rfl rfl rfl rfl rfl rfl rfl ⟨rfl, rfl, rfl, rfl, rfl⟩ rfl rfl rfl rfl rfl (by kernel_rfl) Ybad.func3 (by kernel_rfl)
    (of_decide_eq_true (by kernel_rfl)) (by unfold Func.isWrapper; first | (rw [if_pos (by decide +kernel)]; kernel_rfl) | (rw [if_neg (by decide +kernel)]; exact ⟨rfl, rfl⟩))
    (fun os started H enc _ => lifted os started H enc)

-- THE STATEMENT: the tied card.
theorem proved : Rows.LawS2192CRefuseCardSaid :=
  Claim7.holds_tied_plain_at .later [] [.sentinel] true (true, "941889efe1d0edd6ba58dd84087b2961550a84ea8441264bdb99a4124c7ee5c8") true
    row_holds (fun _ h => by cases h) (by kernel_rfl) (fun _ h => by cases h) lawS2192CRefuse_row_tie rfl ⟨rfl, rfl⟩ (by kernel_rfl) rfl
    (fun f fn hf hfn => by
      obtain rfl : f = 3 := (Option.some.inj ((show Ybad.prog.funcNamed Rows.lawS2192CRefuseRow.func = some 3 by kernel_rfl).symm.trans hf)).symm
      obtain rfl : fn = Ybad.f3 := (Option.some.inj (Ybad.func3.symm.trans hfn)).symm
      exact ⟨by kernel_rfl, fun j t ht => by
        rw [Ybad.params3] at ht
        have h3 : t = 22 ∨ t = 21 ∨ t = 4 := by
          rcases j with _ | _ | _ | j
          · exact .inl (by simpa using ht.symm)
          · exact .inr (.inl (by simpa using ht.symm))
          · exact .inr (.inr (by simpa using ht.symm))
          · simp at ht
        rcases h3 with rfl | rfl | rfl
        · exact (show Ybad.prog.wantsStandIn 22 = false by kernel_rfl)
        · exact (show Ybad.prog.wantsStandIn 21 = false by kernel_rfl)
        · exact (show Ybad.prog.wantsStandIn 4 = false by kernel_rfl)⟩)
    (by kernel_rfl)

end Go.Proofs.YbulkasjiDoor.lawS2192CRefuse
