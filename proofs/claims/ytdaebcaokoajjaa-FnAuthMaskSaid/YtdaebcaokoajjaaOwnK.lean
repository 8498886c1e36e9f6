/- An append as an operation of a region; what is kept free. -/
import Derived.Test.YtdaebcaokoajjaaRelW
namespace Go
section
variable {P : Program}
theorem run_exec_append {w w' : World} {o : Oper} {a : Act} {v' : Value} (s x : Operand) (t t' : TypeId) (hop : o.op = Op.call { callee := Callee.builtin Builtin.append, args := #[s, x], argTypes := #[t, t'] })
    (sv xv : Value) (hs : a.eval s = sv) (hx : a.eval x = xv) (hrun : (Builtin.append_ #[t, t'] o.type #[sv, xv]).run P w = .ok v' w') : (execOp a.eval o).run P w = .ok (.value v') w' := by
  simp [execOp, hop, resolve, invoke, builtin, hs, hx, hrun, Result.andThen]
theorem free_nil {F : Nat → Prop} : ∀ j ∈ ([] : List Nat), F j := fun _ h => by cases h
theorem free_cons {F : Nat → Prop} {i : Nat} {l : List Nat} (h : F i) (hl : ∀ j ∈ l, F j) : ∀ j ∈ i :: l, F j := fun j hj => by
  rcases List.mem_cons.1 hj with rfl | hj
  · exact h
  · exact hl j hj
end
end Go
