/-
  fmt.Errorf at this program's one call: what comes back is no nil.
-/
import Derived.Test.YbulkaryoFmtLead
import Derived.Stop.CallBack
import Derived.Stop.IfaceNil
import Derived.Stop.FmtTextLaws
import GoSem.ClaimData
namespace Go.Proofs.YbulkaryoFmt
open Go.RowKit Go.Extern.Stop Go.Stop Go.Extern

theorem call21 (args : Array Value) (w : World) : (callFunc 21 args).run Ybaf.prog w = ((FmtStop.errorf #[9, 83] #[49] args).run Ybaf.prog w).andThen fun v w' => .ok (.value v) w' :=
  run_callFunc_extern Ybaf.func21 (by kernel_rfl) (by kernel_rfl) (by kernel_rfl) (by kernel_rfl) args w
theorem guard21 (name : String) (w : World) : (FmtStop.guard name).run Ybaf.prog w = .ok () w := by kernel_rfl
def form : ByteArray := ⟨#[112, 114, 111, 99, 101, 115, 115, 105, 111, 110, 58, 32, 115, 116, 101, 112, 32, 37, 100, 32, 111, 102, 32, 116, 104, 101, 32, 115, 99, 104, 101, 100, 117, 108, 101, 44, 32, 37, 115, 62, 37, 115, 58, 32, 110, 111, 32, 102, 114, 97, 109, 101, 32, 105, 115, 32, 119, 97, 105, 116, 105, 110, 103, 32, 102, 114, 111, 109, 32, 37, 115, 32, 116, 111, 32, 37, 115]⟩
theorem fmt0 : FmtStop.printed? form 5 = some [(0, 100, false), (1, 115, false), (2, 115, false), (3, 115, false), (4, 115, false)] := by kernel_rfl
theorem fmt0r (w : World) : (FmtDoors.printed form 5).run Ybaf.prog w = .ok [(0, 100, false), (1, 115, false), (2, 115, false), (3, 115, false), (4, 115, false)] w := by kernel_rfl
def shape3 : List UInt8 := [5, 3, 0, 0, 0, 0, 0, 0, 0, 105, 110, 116]
def shape9 : List UInt8 := [12, 6, 0, 0, 0, 0, 0, 0, 0, 115, 116, 114, 105, 110, 103]
theorem op3 (name : String) (x : Int) (w : World) : (FmtStop.operand name true 100 false (.iface 3 (.int .i64 x))).run Ybaf.prog w = .ok (shape3, Go.Extern.Stop.digits 8 (x % 2 ^ 64).toNat) w := by kernel_rfl
theorem op9 (name : String) (x : ByteArray) (w : World) : (FmtStop.operand name true 115 false (.iface 9 (.string x))).run Ybaf.prog w = .ok (shape9, FmtStop.pack x.data.toList) w := by kernel_rfl

theorem ptr91 (w : World) : (FmtStop.ptrTo "errors.errorString").run Ybaf.prog w = .ok 91 w := by kernel_rfl
theorem elem91 (w : World) : (elemOf 91).run Ybaf.prog w = .ok 93 w := by kernel_rfl

set_option maxRecDepth 100000 in
set_option maxHeartbeats 2000000 in
theorem errorf_ok (F : Interp) (x : Int) (s1 s2 : ByteArray) (blk : Nat) (w : World) (hF : F.answers w.tape) (c0 : w.cell? ⟨blk, 0, none⟩ = some (.iface 3 (.int .i64 x))) (c1 : w.cell? ⟨blk, 1, none⟩ = some (.iface 9 (.string s1))) (c2 : w.cell? ⟨blk, 2, none⟩ = some (.iface 9 (.string s2))) (c3 : w.cell? ⟨blk, 3, none⟩ = some (.iface 9 (.string s1))) (c4 : w.cell? ⟨blk, 4, none⟩ = some (.iface 9 (.string s2))) :
    Calls Ybaf.prog 13 #[.string form, .slice (some ⟨blk, 0, none⟩) 5 5] w fun e w' => (∃ t v, e = .returned (.iface t v)) ∧ Frm (fun _ => False) w w' := by
  have hF' := hF
  unfold Interp.answers at hF'
  have k1 := call21
  have k2 := guard21
  have k3 := fmt0
  have k4 := fmt0r
  have k5 := op3
  have k6 := op9
  have k7 := ptr91
  have k8 := elem91
  go_enter Ybaf.func13, Ybaf.ntmps13
  go_wp2
  go_ret
  exact ⟨⟨_, _, rfl⟩, ((Frm.refl _ w).drew.alloc _)⟩
end Go.Proofs.YbulkaryoFmt
