import Derived.Test.YbulkcgioFmtKit9
import Derived.Stop.CallBack
import Derived.Stop.IfaceNil
import Derived.Stop.FmtTextLaws
import GoSem.ClaimData
namespace Go.Proofs.YbulkcgioFmt.Kit
set_option linter.unusedSimpArgs false
set_option linter.unusedVariables false
open Go.ChangeShapes Go.WideShapes Go.ChangeAt Go.RowKit
open Go.Extern.Stop Go.Stop Go.Extern

@[go_sem] theorem call12 (args : Array Value) (w : World) : (callFunc 12 args).run Ybaf.prog w = ((FmtStop.errorf #[9, 55] #[39] args).run Ybaf.prog w).andThen fun v w' => .ok (.value v) w' :=
  run_callFunc_extern Ybaf.func12 (by kernel_rfl) (by kernel_rfl) (by kernel_rfl) (by kernel_rfl) args w
@[go_sem] theorem guard (name : String) (w : World) : (FmtStop.guard name).run Ybaf.prog w = .ok () w := by kernel_rfl
-- "%d octets, more than %d"
@[go_sem] theorem fmt0 : FmtStop.printed? ⟨#[37, 100, 32, 111, 99, 116, 101, 116, 115, 44, 32, 109, 111, 114, 101, 32, 116, 104, 97, 110, 32, 37, 100]⟩ 2 = some [(0, 100, false), (1, 100, false)] := by kernel_rfl
@[go_sem] theorem fmt0r (w : World) : (FmtDoors.printed ⟨#[37, 100, 32, 111, 99, 116, 101, 116, 115, 44, 32, 109, 111, 114, 101, 32, 116, 104, 97, 110, 32, 37, 100]⟩ 2).run Ybaf.prog w = .ok [(0, 100, false), (1, 100, false)] w := by kernel_rfl
def shape23 : List UInt8 := [8, 6, 0, 0, 0, 0, 0, 0, 0, 117, 105, 110, 116, 51, 50]
def shape3 : List UInt8 := [5, 3, 0, 0, 0, 0, 0, 0, 0, 105, 110, 116]
@[go_sem] theorem op23_100w (name : String) (x : Int) (w : World) : (FmtStop.operand name true 100 false (.iface 23 (.int .u32 x))).run Ybaf.prog w = .ok (shape23, Go.Extern.Stop.digits 8 (x % 2 ^ 64).toNat) w := by kernel_rfl
@[go_sem] theorem op3_100w (name : String) (x : Int) (w : World) : (FmtStop.operand name true 100 false (.iface 3 (.int .i64 x))).run Ybaf.prog w = .ok (shape3, Go.Extern.Stop.digits 8 (x % 2 ^ 64).toNat) w := by kernel_rfl
@[go_sem] theorem ptr60 (w : World) : (FmtStop.ptrTo "errors.errorString").run Ybaf.prog w = .ok 60 w := by kernel_rfl
@[go_sem] theorem elem60 (w : World) : (elemOf 60).run Ybaf.prog w = .ok 62 w := by kernel_rfl

abbrev fmtS : ByteArray := ⟨#[37, 100, 32, 111, 99, 116, 101, 116, 115, 44, 32, 109, 111, 114, 101, 32, 116, 104, 97, 110, 32, 37, 100]⟩

/-- fmt.Errorf with two integers and no %w: a new error of errors.New's make; its text is whatever fmt gives. -/
theorem errorf_over (F : Interp) (x y : Int) (blk : Nat) (w : World) (hF : F.answers w.tape)
    (hc0 : w.cell? ⟨blk, 0, none⟩ = some (.iface 23 (.int .u32 x))) (hc1 : w.cell? ⟨blk, 1, none⟩ = some (.iface 3 (.int .i64 y))) :
    Calls Ybaf.prog 9 #[.string ⟨#[37, 100, 32, 111, 99, 116, 101, 116, 115, 44, 32, 109, 111, 114, 101, 32, 116, 104, 97, 110, 32, 37, 100]⟩, .slice (some ⟨blk, 0, none⟩) 2 2] w fun e w' =>
      e = .returned (.iface 60 (.pointer (some ⟨w.heap.size, 0, none⟩))) ∧ ∃ t, w' = (w.alloc (.cells #[.string t] 62)).drew := by
  have hF' : ∀ i name reading k range, w.tape i (.extern (word name reading k) range) = F name reading k := hF
  go_enter Ybaf.func9, Ybaf.ntmps9
  go_wp2
  go_ret
  exact ⟨rfl, _, rfl⟩

/-- (*Reader).readData beyond the limit: an error of its own. -/
theorem readData_big (F : Interp) (D : Nat) (w : World) (hF : F.answers w.tape) :
    Calls Ybaf.prog 6 #[.pointer (some ⟨D, 0, none⟩), .int .u32 262145] w fun e w' =>
      e = .returned (.tuple #[.slice none 0 0, .iface 60 (.pointer (some ⟨w.heap.size + 1, 0, none⟩))]) ∧ ∃ o t, w' = ((w.alloc o).alloc (.cells #[.string t] 62)).drew := by
  go_enter Ybaf.func6, Ybaf.ntmps6
  go_wp2_with (go_at_call 9; refine (errorf_over F 262145 262144 w.heap.size _ ?_ ?_ ?_).mono ?_; exact hF; exact (by simp [go_sem]); exact (by simp [go_sem]); rintro e w' ⟨rfl, t, rfl⟩)
  go_ret2
  exact ⟨by simp, _, _, rfl⟩
end Go.Proofs.YbulkcgioFmt.Kit
