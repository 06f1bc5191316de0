/- What single operations come to, whatever the frame. -/
import Derived.Test.YtgggpllmgnpngaaGreatDoorTbSteps
import Derived.Test.YtgggpllmgnpngaaGreatDoorTbLaw
namespace Go.Proofs.YtgggpllmgnpngaaGreatDoor.Tb
open Go Go.RowKit

def regionOf (n : Nat) : Code → Option (Array Oper)
  | .region id ops _ => if id = n then some ops else none
  | .seq x y => match regionOf n x with | some r => some r | none => regionOf n y
  | .cond _ x y => match regionOf n x with | some r => some r | none => regionOf n y
  | .block _ x => regionOf n x
  | .loop x => regionOf n x
  | _ => none
noncomputable def ops11 : Array Oper := match Tryz.f5.body with | some b => (regionOf 11 b).getD #[] | none => #[]
theorem ops11_size : ops11.size = 82 := by kernel_rfl
theorem op_5 : (ops11.getD 5 default).op = Op.call { callee := Callee.value (Operand.func 15), args := #[.tmp 41, .tmp 43], argTypes := #[58, 32] } := by kernel_rfl

theorem run_load1 (w : World) (b o : Nat) (ty : TypeId) (d : TypeDesc) (v : Value) (hc : w.cell? ⟨b, o, none⟩ = some v) (hu : Tryz.prog.underlying ty = some d) (hd : (match d with | .struct _ | .array _ _ => true | _ => false) = false) :
    (Instr.loadAt ty (.pointer (some ⟨b, o, none⟩))).run Tryz.prog w = .ok v w := by
  have hagg : (isAgg ty).run Tryz.prog w = .ok false w := by
    unfold isAgg
    rw [Sem.run_bind, run_underlying hu w]
    cases d <;> simp_all
  simp [Instr.loadAt, Instr.sureAddr, loadVar, Sem.run_bind, hagg, hc]
theorem cf (f : FuncId) (hf : f = 14 ∨ f = 15 ∨ f = 16 ∨ f = 17 ∨ f = 18 ∨ f = 19 ∨ f = 20) (args : Array Value) (w : World) : (callFunc f args).run Tryz.prog w = .ok (.enter f args) w := by
  rcases hf with rfl | rfl | rfl | rfl | rfl | rfl | rfl <;> kernel_rfl
theorem run_call (o : Oper) (a : Act) (w : World) (xs : Array Operand) (ts : Array TypeId) (f : FuncId) (hf : f = 14 ∨ f = 15 ∨ f = 16 ∨ f = 17 ∨ f = 18 ∨ f = 19 ∨ f = 20) (ho : o.op = .call { callee := .value (.func f), args := xs, argTypes := ts }) :
    (execOp a.eval o).run Tryz.prog w = .ok (.enter f (xs.map a.eval)) w := by
  unfold execOp
  simp [ho, resolve, Act.eval, Deferred.ofValue, invoke, cf f hf]
theorem fa35_9 (w : World) (F : Nat) : (Instr.fieldAt 35 (.pointer (some ⟨F, 0, none⟩)) 9).run Tryz.prog w = .ok (.pointer (some ⟨F, 34, none⟩)) w := by kernel_rfl
theorem fa67 (w : World) (F : Nat) : (Instr.fieldAt 67 (.pointer (some ⟨F, 0, none⟩)) 0).run Tryz.prog w = .ok (.pointer (some ⟨F, 0, none⟩)) w := by kernel_rfl
theorem box67 (w : World) : (Instr.box 67 (.agg #[.slice none 0 0, .slice none 0 0])).run Tryz.prog w = .ok (.pointer (some ⟨w.heap.size, 0, none⟩)) (w.alloc (.cells #[.slice none 0 0, .slice none 0 0] 67)) := by kernel_rfl
theorem build67 (w : World) : (Instr.build 67 #[]).run Tryz.prog w = .ok (.agg #[.slice none 0 0, .slice none 0 0]) w := by kernel_rfl
theorem bs2 (w : World) (x : Int) : (Instr.buildSlice 29 2 #[(0, .int .i64 0), (1, .int .i64 x)]).run Tryz.prog w = .ok (.slice (some ⟨w.heap.size, 0, none⟩) 2 2) (w.alloc (.cells #[.int .i64 0, .int .i64 x] 3)) := by kernel_rfl
end Go.Proofs.YtgggpllmgnpngaaGreatDoor.Tb
