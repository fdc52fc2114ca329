/-
  The closed facts for a walk over fmt.Errorf's stopped front in this program (after the kit's GuardFmt.lean), and fmt.Errorf's contract: whatever is told of the text, a new error that is not nil.
-/
import Derived.Test.YbulkdalyFmtVar
import Derived.Stop.CallBack
import Derived.Stop.IfaceNil
import GoSem.ClaimData
namespace Go.Proofs.YbulkdalyFmt
open Go.RowKit
open Go.Extern.Stop Go.Stop Go.Extern

@[go_sem] theorem call18 (args : Array Value) (w : World) : (callFunc 18 args).run Ybaf.prog w = ((FmtStop.errorf #[9, 57] #[27] args).run Ybaf.prog w).andThen fun v w' => .ok (.value v) w' :=
  run_callFunc_extern Ybaf.func18 (by kernel_rfl) (by kernel_rfl) (by kernel_rfl) (by kernel_rfl) args w
@[go_sem] theorem guard18 (name : String) (w : World) : (FmtStop.guard name).run Ybaf.prog w = .ok () w := by kernel_rfl
def fm0 : ByteArray := ⟨#[101, 108, 101, 109, 101, 110, 116, 32, 111, 102, 32, 116, 121, 112, 101, 32, 37, 100, 32, 99, 108, 97, 105, 109, 115, 32, 37, 100, 32, 98, 121, 116, 101, 115, 32, 119, 104, 101, 114, 101, 32, 37, 100, 32, 114, 101, 109, 97, 105, 110]⟩
@[go_sem] theorem fmt0_3 : FmtStop.printed? ⟨#[101, 108, 101, 109, 101, 110, 116, 32, 111, 102, 32, 116, 121, 112, 101, 32, 37, 100, 32, 99, 108, 97, 105, 109, 115, 32, 37, 100, 32, 98, 121, 116, 101, 115, 32, 119, 104, 101, 114, 101, 32, 37, 100, 32, 114, 101, 109, 97, 105, 110]⟩ 3 = some [(0, 100, false), (1, 100, false), (2, 100, false)] := by kernel_rfl
@[go_sem] theorem fmt0_3r (w : World) : (FmtDoors.printed ⟨#[101, 108, 101, 109, 101, 110, 116, 32, 111, 102, 32, 116, 121, 112, 101, 32, 37, 100, 32, 99, 108, 97, 105, 109, 115, 32, 37, 100, 32, 98, 121, 116, 101, 115, 32, 119, 104, 101, 114, 101, 32, 37, 100, 32, 114, 101, 109, 97, 105, 110]⟩ 3).run Ybaf.prog w = .ok [(0, 100, false), (1, 100, false), (2, 100, false)] w := by kernel_rfl
@[go_sem] theorem fmt0_0 : FmtStop.printed? ⟨#[101, 108, 101, 109, 101, 110, 116, 32, 111, 102, 32, 116, 121, 112, 101, 32, 37, 100, 32, 99, 108, 97, 105, 109, 115, 32, 37, 100, 32, 98, 121, 116, 101, 115, 32, 119, 104, 101, 114, 101, 32, 37, 100, 32, 114, 101, 109, 97, 105, 110]⟩ 0 = some [] := by kernel_rfl
@[go_sem] theorem fmt0_0r (w : World) : (FmtDoors.printed ⟨#[101, 108, 101, 109, 101, 110, 116, 32, 111, 102, 32, 116, 121, 112, 101, 32, 37, 100, 32, 99, 108, 97, 105, 109, 115, 32, 37, 100, 32, 98, 121, 116, 101, 115, 32, 119, 104, 101, 114, 101, 32, 37, 100, 32, 114, 101, 109, 97, 105, 110]⟩ 0).run Ybaf.prog w = .ok [] w := by kernel_rfl
def fm1 : ByteArray := ⟨#[110, 97, 109, 101, 32, 99, 111, 109, 112, 111, 110, 101, 110, 116, 32, 116, 121, 112, 101, 32, 37, 100, 32, 105, 115, 32, 111, 117, 116, 115, 105, 100, 101, 32, 49, 32, 116, 111, 32, 54, 53, 53, 51, 53]⟩
@[go_sem] theorem fmt1_1 : FmtStop.printed? ⟨#[110, 97, 109, 101, 32, 99, 111, 109, 112, 111, 110, 101, 110, 116, 32, 116, 121, 112, 101, 32, 37, 100, 32, 105, 115, 32, 111, 117, 116, 115, 105, 100, 101, 32, 49, 32, 116, 111, 32, 54, 53, 53, 51, 53]⟩ 1 = some [(0, 100, false)] := by kernel_rfl
@[go_sem] theorem fmt1_1r (w : World) : (FmtDoors.printed ⟨#[110, 97, 109, 101, 32, 99, 111, 109, 112, 111, 110, 101, 110, 116, 32, 116, 121, 112, 101, 32, 37, 100, 32, 105, 115, 32, 111, 117, 116, 115, 105, 100, 101, 32, 49, 32, 116, 111, 32, 54, 53, 53, 51, 53]⟩ 1).run Ybaf.prog w = .ok [(0, 100, false)] w := by kernel_rfl
@[go_sem] theorem fmt1_0 : FmtStop.printed? ⟨#[110, 97, 109, 101, 32, 99, 111, 109, 112, 111, 110, 101, 110, 116, 32, 116, 121, 112, 101, 32, 37, 100, 32, 105, 115, 32, 111, 117, 116, 115, 105, 100, 101, 32, 49, 32, 116, 111, 32, 54, 53, 53, 51, 53]⟩ 0 = some [] := by kernel_rfl
@[go_sem] theorem fmt1_0r (w : World) : (FmtDoors.printed ⟨#[110, 97, 109, 101, 32, 99, 111, 109, 112, 111, 110, 101, 110, 116, 32, 116, 121, 112, 101, 32, 37, 100, 32, 105, 115, 32, 111, 117, 116, 115, 105, 100, 101, 32, 49, 32, 116, 111, 32, 54, 53, 53, 51, 53]⟩ 0).run Ybaf.prog w = .ok [] w := by kernel_rfl
def fm2 : ByteArray := ⟨#[100, 105, 103, 101, 115, 116, 32, 110, 97, 109, 101, 32, 99, 111, 109, 112, 111, 110, 101, 110, 116, 32, 111, 102, 32, 37, 100, 32, 98, 121, 116, 101, 115, 44, 32, 110, 111, 116, 32, 37, 100]⟩
@[go_sem] theorem fmt2_2 : FmtStop.printed? ⟨#[100, 105, 103, 101, 115, 116, 32, 110, 97, 109, 101, 32, 99, 111, 109, 112, 111, 110, 101, 110, 116, 32, 111, 102, 32, 37, 100, 32, 98, 121, 116, 101, 115, 44, 32, 110, 111, 116, 32, 37, 100]⟩ 2 = some [(0, 100, false), (1, 100, false)] := by kernel_rfl
@[go_sem] theorem fmt2_2r (w : World) : (FmtDoors.printed ⟨#[100, 105, 103, 101, 115, 116, 32, 110, 97, 109, 101, 32, 99, 111, 109, 112, 111, 110, 101, 110, 116, 32, 111, 102, 32, 37, 100, 32, 98, 121, 116, 101, 115, 44, 32, 110, 111, 116, 32, 37, 100]⟩ 2).run Ybaf.prog w = .ok [(0, 100, false), (1, 100, false)] w := by kernel_rfl
@[go_sem] theorem fmt2_0 : FmtStop.printed? ⟨#[100, 105, 103, 101, 115, 116, 32, 110, 97, 109, 101, 32, 99, 111, 109, 112, 111, 110, 101, 110, 116, 32, 111, 102, 32, 37, 100, 32, 98, 121, 116, 101, 115, 44, 32, 110, 111, 116, 32, 37, 100]⟩ 0 = some [] := by kernel_rfl
@[go_sem] theorem fmt2_0r (w : World) : (FmtDoors.printed ⟨#[100, 105, 103, 101, 115, 116, 32, 110, 97, 109, 101, 32, 99, 111, 109, 112, 111, 110, 101, 110, 116, 32, 111, 102, 32, 37, 100, 32, 98, 121, 116, 101, 115, 44, 32, 110, 111, 116, 32, 37, 100]⟩ 0).run Ybaf.prog w = .ok [] w := by kernel_rfl
def shape3 : List UInt8 := [5, 3, 0, 0, 0, 0, 0, 0, 0, 105, 110, 116]
@[go_sem] theorem op3_100 (name : String) (x : Int) (w : World) : (FmtStop.operand name false 100 false (.iface 3 (.int .i64 x))).run Ybaf.prog w = .ok (shape3, Go.Extern.Stop.digits 8 (x % 2 ^ 64).toNat) w := by kernel_rfl
@[go_sem] theorem op3_100w (name : String) (x : Int) (w : World) : (FmtStop.operand name true 100 false (.iface 3 (.int .i64 x))).run Ybaf.prog w = .ok (shape3, Go.Extern.Stop.digits 8 (x % 2 ^ 64).toNat) w := by kernel_rfl
@[go_sem] theorem strict3 (name : String) (x : Int) (w : World) : (FmtStop.strict name (.iface 3 (.int .i64 x))).run Ybaf.prog w = .ok (shape3, Go.Extern.Stop.digits 8 (x % 2 ^ 64).toNat) w := by kernel_rfl
def shape39 : List UInt8 := [9, 6, 0, 0, 0, 0, 0, 0, 0, 117, 105, 110, 116, 54, 52]
@[go_sem] theorem op39_100 (name : String) (x : Int) (w : World) : (FmtStop.operand name false 100 false (.iface 39 (.int .u64 x))).run Ybaf.prog w = .ok (shape39, Go.Extern.Stop.digits 8 (x % 2 ^ 64).toNat) w := by kernel_rfl
@[go_sem] theorem op39_100w (name : String) (x : Int) (w : World) : (FmtStop.operand name true 100 false (.iface 39 (.int .u64 x))).run Ybaf.prog w = .ok (shape39, Go.Extern.Stop.digits 8 (x % 2 ^ 64).toNat) w := by kernel_rfl
@[go_sem] theorem strict39 (name : String) (x : Int) (w : World) : (FmtStop.strict name (.iface 39 (.int .u64 x))).run Ybaf.prog w = .ok (shape39, Go.Extern.Stop.digits 8 (x % 2 ^ 64).toNat) w := by kernel_rfl
@[go_sem] theorem ptr60 (w : World) : (FmtStop.ptrTo "errors.errorString").run Ybaf.prog w = .ok 60 w := by kernel_rfl
@[go_sem] theorem elem60 (w : World) : (elemOf 60).run Ybaf.prog w = .ok 62 w := by kernel_rfl
@[go_sem] theorem isError60 (w : World) : (FmtDoors.textMethod 60 "Error").run Ybaf.prog w = .ok true w := by kernel_rfl

set_option maxRecDepth 100000 in
set_option maxHeartbeats 400000 in
theorem errorf0 (F : Interp) (b : Nat) (x y z : Int) (w : World) (hF : F.answers w.tape) (h0 : w.cell? ⟨b, 0, none⟩ = some (.iface 39 (.int .u64 x))) (h1 : w.cell? ⟨b, 1, none⟩ = some (.iface 39 (.int .u64 y))) (h2 : w.cell? ⟨b, 2, none⟩ = some (.iface 3 (.int .i64 z))) :
    Calls Ybaf.prog 15 #[.string fm0, .slice (some ⟨b, 0, none⟩) 3 3] w fun e w' => ∃ q, e = .returned (.iface 60 (.pointer (some q))) ∧ Below w.heap.size w w' := by
  have hF' : ∀ i name reading k range, w.tape i (.extern (word name reading k) range) = F name reading k := hF
  unfold fm0
  go_enter Ybaf.func15, Ybaf.ntmps15
  go_wp2
  go_ret
  exact ⟨_, rfl, ((Below.refl _ _).alloc (Nat.le_refl _) _).drew⟩
set_option maxRecDepth 100000 in
set_option maxHeartbeats 400000 in
theorem errorf1 (F : Interp) (b : Nat) (x : Int) (w : World) (hF : F.answers w.tape) (h0 : w.cell? ⟨b, 0, none⟩ = some (.iface 39 (.int .u64 x))) :
    Calls Ybaf.prog 15 #[.string fm1, .slice (some ⟨b, 0, none⟩) 1 1] w fun e w' => ∃ q, e = .returned (.iface 60 (.pointer (some q))) ∧ Below w.heap.size w w' := by
  have hF' : ∀ i name reading k range, w.tape i (.extern (word name reading k) range) = F name reading k := hF
  unfold fm1
  go_enter Ybaf.func15, Ybaf.ntmps15
  go_wp2
  go_ret
  exact ⟨_, rfl, ((Below.refl _ _).alloc (Nat.le_refl _) _).drew⟩
set_option maxRecDepth 100000 in
set_option maxHeartbeats 400000 in
theorem errorf2 (F : Interp) (b : Nat) (x y : Int) (w : World) (hF : F.answers w.tape) (h0 : w.cell? ⟨b, 0, none⟩ = some (.iface 3 (.int .i64 x))) (h1 : w.cell? ⟨b, 1, none⟩ = some (.iface 3 (.int .i64 y))) :
    Calls Ybaf.prog 15 #[.string fm2, .slice (some ⟨b, 0, none⟩) 2 2] w fun e w' => ∃ q, e = .returned (.iface 60 (.pointer (some q))) ∧ Below w.heap.size w w' := by
  have hF' : ∀ i name reading k range, w.tape i (.extern (word name reading k) range) = F name reading k := hF
  unfold fm2
  go_enter Ybaf.func15, Ybaf.ntmps15
  go_wp2
  go_ret
  exact ⟨_, rfl, ((Below.refl _ _).alloc (Nat.le_refl _) _).drew⟩
#print axioms errorf0
end Go.Proofs.YbulkdalyFmt
