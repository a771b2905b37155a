import Derived.Test.Qxb6616086aFmtMd
import Derived.Stop.CallBack
import Derived.Stop.IfaceNil
import Derived.Stop.FmtTextLaws
/-! fmt.Errorf AND errors.New: what they hand back. -/
namespace Go.Proofs
open Go.Extern.Stop Go.Stop Go.Extern

theorem Tryf.call31 (args : Array Value) (w : World) : (callFunc 31 args).run Tryf.prog w = ((FmtStop.errorf #[9, 80] #[33] args).run Tryf.prog w).andThen fun v w' => .ok (.value v) w' :=
  run_callFunc_extern Tryf.func31 (by kernel_rfl) (by kernel_rfl) (by kernel_rfl) (by kernel_rfl) args w
theorem Tryf.guard (name : String) (w : World) : (FmtStop.guard name).run Tryf.prog w = .ok () w := by kernel_rfl

def Tryf.fmtKind : ByteArray := ⟨#[97, 110, 32, 101, 110, 116, 114, 121, 32, 111, 102, 32, 117, 110, 107, 110, 111, 119, 110, 32, 107, 105, 110, 100, 32, 37, 100]⟩
def Tryf.fmtLen : ByteArray := ⟨#[97, 32, 102, 105, 101, 108, 100, 32, 111, 102, 32, 37, 100, 32, 98, 121, 116, 101, 115, 32, 114, 117, 110, 115, 32, 112, 97, 115, 116, 32, 116, 104, 101, 32, 101, 110, 100, 32, 111, 102, 32, 116, 104, 101, 32, 114, 101, 99, 111, 114, 100]⟩
theorem Tryf.fmt0 : FmtStop.printed? Tryf.fmtKind 1 = some [(0, 100, false)] := by kernel_rfl
theorem Tryf.fmt0r (w : World) : (FmtDoors.printed Tryf.fmtKind 1).run Tryf.prog w = .ok [(0, 100, false)] w := by kernel_rfl
theorem Tryf.fmt1 : FmtStop.printed? Tryf.fmtLen 1 = some [(0, 100, false)] := by kernel_rfl
theorem Tryf.fmt1r (w : World) : (FmtDoors.printed Tryf.fmtLen 1).run Tryf.prog w = .ok [(0, 100, false)] w := by kernel_rfl

def Tryf.shape5 : List UInt8 := [6, 5, 0, 0, 0, 0, 0, 0, 0, 117, 105, 110, 116, 56]
def Tryf.shape47 : List UInt8 := [9, 6, 0, 0, 0, 0, 0, 0, 0, 117, 105, 110, 116, 54, 52]
theorem Tryf.op5_100w (name : String) (x : Int) (w : World) : (FmtStop.operand name true 100 false (.iface 5 (.int .u8 x))).run Tryf.prog w = .ok (Tryf.shape5, Go.Extern.Stop.digits 8 (x % 2 ^ 64).toNat) w := by kernel_rfl
theorem Tryf.op47_100w (name : String) (x : Int) (w : World) : (FmtStop.operand name true 100 false (.iface 47 (.int .u64 x))).run Tryf.prog w = .ok (Tryf.shape47, Go.Extern.Stop.digits 8 (x % 2 ^ 64).toNat) w := by kernel_rfl
theorem Tryf.ptr83 (w : World) : (FmtStop.ptrTo "errors.errorString").run Tryf.prog w = .ok 83 w := by kernel_rfl
theorem Tryf.elem83 (w : World) : (elemOf 83).run Tryf.prog w = .ok 85 w := by kernel_rfl

attribute [local go_sem] Tryf.call31 Tryf.guard Tryf.fmt0 Tryf.fmt0r Tryf.fmt1 Tryf.fmt1r Tryf.op5_100w Tryf.op47_100w Tryf.ptr83 Tryf.elem83

namespace Qxb6616086aFmt
open Go.RowKit

theorem new_any (s : ByteArray) (w : World) : Calls Tryf.prog 30 #[.string s] w fun e w' => e = .returned (.iface 83 (.pointer (some ⟨w.heap.size, 0, none⟩))) ∧ w' = w.alloc (.cells #[.string s] 85) := by
  go_enter Tryf.func30, Tryf.ntmps30
  go_wp2
  go_ret
  exact ⟨rfl, rfl⟩

/-- An error that is not nil has come; nothing that was there has turned. -/
def GotErr (e : Ending) (w w' : World) : Prop := ∃ t v, e = .returned (.iface t v) ∧ Below w.heap.size w w'

theorem errorf_kind (F : Interp) (x : Int) (blk : Nat) (w : World) (hF : F.answers w.tape) (hc : w.cell? ⟨blk, 0, none⟩ = some (.iface 5 (.int .u8 x))) :
    Calls Tryf.prog 25 #[.string Tryf.fmtKind, .slice (some ⟨blk, 0, none⟩) 1 1] w fun e w' => GotErr e w w' := by
  have hF' := hF
  unfold Interp.answers at hF'
  go_enter Tryf.func25, Tryf.ntmps25
  go_wp2
  go_ret
  exact ⟨_, _, rfl, ((Below.refl _ w).alloc (Nat.le_refl _) _).drew⟩

theorem errorf_len (F : Interp) (x : Int) (blk : Nat) (w : World) (hF : F.answers w.tape) (hc : w.cell? ⟨blk, 0, none⟩ = some (.iface 47 (.int .u64 x))) :
    Calls Tryf.prog 25 #[.string Tryf.fmtLen, .slice (some ⟨blk, 0, none⟩) 1 1] w fun e w' => GotErr e w w' := by
  have hF' := hF
  unfold Interp.answers at hF'
  go_enter Tryf.func25, Tryf.ntmps25
  go_wp2
  go_ret
  exact ⟨_, _, rfl, ((Below.refl _ w).alloc (Nat.le_refl _) _).drew⟩
end Qxb6616086aFmt
end Go.Proofs
