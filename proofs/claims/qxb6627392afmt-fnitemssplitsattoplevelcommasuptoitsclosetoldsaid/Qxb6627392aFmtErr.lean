/-
  fmt.Errorf of a text without a verb and without operands: errors.New of it (the stop 'fmt.errorf' answers nil there, and the tape is asked nothing).
-/
import Derived.Test.Qxb6627392aFmtBase
import Derived.Stop.CallBack
import Derived.Stop.IfaceNil
namespace Go.Proofs.Qxb6627392aFmt
open Go.RowKit Go.Extern.Stop Go.Stop Go.Extern

abbrev msg : ByteArray := ⟨#[116, 104, 101, 32, 108, 105, 115, 116, 32, 100, 111, 101, 115, 32, 110, 111, 116, 32, 101, 110, 100]⟩

theorem Tryf.call19 (args : Array Value) (w : World) : (callFunc 19 args).run Tryf.prog w = ((FmtStop.errorf #[9, 50] #[30] args).run Tryf.prog w).andThen fun v w' => .ok (.value v) w' :=
  run_callFunc_extern Tryf.func19 (by kernel_rfl) (by kernel_rfl) (by kernel_rfl) (by kernel_rfl) args w
theorem Tryf.errorf_none (w : World) : (FmtStop.errorf #[9, 50] #[30] #[.string msg, .slice none 0 0]).run Tryf.prog w = .ok .nilIface w := by kernel_rfl

set_option maxHeartbeats 400000 in
theorem errorf_any (w : World) :
    Calls Tryf.prog 15 #[.string msg, .slice none 0 0] w fun e w' => ∃ t v, e = .returned (.iface t v) ∧ w.grownBy w' none := by
  have h19 : ∀ w, (callFunc 19 #[.string msg, .slice none 0 0]).run Tryf.prog w = .ok (.value .nilIface) w := fun w => by rw [Tryf.call19, Tryf.errorf_none]; rfl
  unfold msg at h19
  go_enter Tryf.func15, Tryf.ntmps15
  go_wp2
  go_ret
  exact ⟨53, _, rfl, grown_alloc _ _ _⟩
end Go.Proofs.Qxb6627392aFmt
