/- What the operations of such a region yield: values that are known; pointers to blocks that were made. -/
import Derived.Test.YtfcdldcekdbckacDoorRel
import Derived.Test.YtfcdldcekdbckacDoorHeld
namespace Go
open Go.RowKit
section
variable {P : Program} {ops : Array Oper} {T : Value → World → Prop}
def isv (x : Value) : Value → World → Prop := fun v _ => v = x
theorem opV_val {o : Oper} {a : Act} {w : World} {v : Value} (hw : Region.wanted o (yielded ops a.tmps) = true) (hv : (execOp a.eval o).run P w = .ok (.value v) w) (ht : T v w) : OpV P ops T o a w :=
  .inl ⟨hw, by rw [hv]; exact ⟨Below.refl _ _, ht⟩⟩
theorem opV_make {o : Oper} {a : Act} {w w' : World} {v : Value} (hw : Region.wanted o (yielded ops a.tmps) = true) (hv : (execOp a.eval o).run P w = .ok (.value v) w') (hb : Below w.heap.size w w') (ht : T v w') : OpV P ops T o a w :=
  .inl ⟨hw, by rw [hv]; exact ⟨hb, ht⟩⟩
theorem opV_no {o : Oper} {a : Act} {w : World} (hw : Region.wanted o (yielded ops a.tmps) = false) (ht : T undef w) : OpV P ops T o a w := .inr ⟨hw, ht⟩
theorem opV_call {o : Oper} {a : Act} {w : World} {f : FuncId} {args : Array Value} (hw : Region.wanted o (yielded ops a.tmps) = true) (hv : (execOp a.eval o).run P w = .ok (.enter f args) w)
    (hc : Calls P f args w (fun e w' => ∃ v, e = .returned v ∧ Below w.heap.size w w' ∧ T v w')) : OpV P ops T o a w :=
  .inl ⟨hw, by rw [hv]; exact ⟨Below.refl _ _, hc⟩⟩
theorem opV_callB {o : Oper} {a : Act} {w : World} {f : FuncId} {args : Array Value} {x : Value} (hw : Region.wanted o (yielded ops a.tmps) = true) (hv : (execOp a.eval o).run P w = .ok (.enter f args) w)
    (hc : Calls P f args w (fun e w' => e = .returned x ∧ Below w.heap.size w w')) : OpV P ops (isv x) o a w :=
  opV_call hw hv (hc.mono fun _ _ ⟨he, hb⟩ => ⟨x, he, hb, rfl⟩)
/-- Predicates that nothing that turns no memory can break. -/
def Stab (T : Value → World → Prop) : Prop := ∀ v w w', Below w.heap.size w w' → T v w → T v w'
theorem stab_isv (x : Value) : Stab (isv x) := fun _ _ _ _ h => h
theorem stabs_nil : ∀ T ∈ ([] : List (Value → World → Prop)), Stab T := fun _ h => by cases h
theorem stabs_cons {T : Value → World → Prop} {l : List (Value → World → Prop)} (h : Stab T) (hl : ∀ T ∈ l, Stab T) : ∀ T' ∈ T :: l, Stab T' := fun T' hT => by
  rcases List.mem_cons.1 hT with rfl | hT
  · exact h
  · exact hl T' hT
end
end Go
namespace Go.Proofs.YtfcdldcekdbckacDoor
open Go Go.RowKit Gf
/-- A pointer to a block of sixteen bytes, at or behind n0. -/
def ptrTo (n0 : Nat) (x : BitVec 128) (t : TypeId) : Value → World → Prop := fun v w => ∃ N, v = .pointer (some ⟨N, 0, none⟩) ∧ n0 ≤ N ∧ objAt w N = some (.cells (blk x) t (0, 0))
theorem stab_ptrTo (n0 : Nat) (x : BitVec 128) (t : TypeId) : Stab (ptrTo n0 x t) := by
  rintro v w w' hb ⟨N, h1, h2, h3⟩
  exact ⟨N, h1, h2, oa_below h3 hb (oa_lt h3)⟩
end Go.Proofs.YtfcdldcekdbckacDoor
