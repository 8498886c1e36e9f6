/- Structs that hold a cipher's words: read, built, written whole. -/
import Derived.Test.YtfcdldcekdbckacDoorNew
import Derived.Laws.Tables
import Derived.KernelRfl
namespace Go.Proofs.YtfcdldcekdbckacDoor
open Go Go.RowKit Gf

/-! ### A whole read -/
def rdOfN (n : Nat) (w : World) (alt : Result (Array Value)) : Option Obj → Result (Array Value)
  | some (.cells cs _ _) => if cs.size = n then .ok cs w else alt
  | _ => alt
def altRdN (P : Program) (g n : Nat) (w : World) : Result (Array Value) := (loadCellsFrom ⟨g, 0, none⟩ 0 n #[]).run P w
@[go_sem] theorem rdOfN_mk (n : Nat) (w : World) (alt : Result (Array Value)) (cs : Array Value) (t : TypeId) (fr : Nat × Nat) (h : cs.size = n) : rdOfN n w alt (some (.cells cs t fr)) = .ok cs w := by
  simp [rdOfN, h]
theorem rdN (P : Program) (w : World) (g n : Nat) : (loadCellsFrom ⟨g, 0, none⟩ 0 n #[]).run P w = rdOfN n w (altRdN P g n w) (objAt w g) := by
  unfold rdOfN altRdN objAt
  split
  · rename_i cs t fr h
    by_cases hs : cs.size = n
    · rw [if_pos hs]
      have := run_loadCells_list (P := P) w ⟨g, 0, none⟩ cs.toList (fun j v hv => by
        have hadd : (⟨g, 0, none⟩ : Addr).add j = ⟨g, j, none⟩ := by unfold Addr.add; split <;> simp_all
        rw [hadd, cell_of_row w g j cs t fr h]
        simpa using hv)
      rw [Array.length_toList, hs] at this
      simpa [loadCells] using this
    · rw [if_neg hs]
  · rfl
theorem rd121 (P : Program) (w : World) (g : Nat) : (loadCellsFrom ⟨g, 0, none⟩ 0 121 #[]).run P w = rdOfN 121 w (altRdN P g 121 w) (objAt w g) := rdN P w g 121
attribute [go_sem ↓] rd121

/-! ### A whole write -/
def wrOfG (w : World) (g : Nat) (y : Array Value) (alt : Result Unit) : Option Obj → Result Unit
  | some (.cells cs _ (0, 0)) => if cs.size = y.size then .ok () (w.setRow g y) else alt
  | _ => alt
def altWrG (P : Program) (g : Nat) (y : Array Value) (w : World) : Result Unit := (storeCells ⟨g, 0, none⟩ y.toList 0).run P w
@[go_sem] theorem wrOfG_mk (w : World) (g : Nat) (y : Array Value) (alt : Result Unit) (cs : Array Value) (t : TypeId) (h : cs.size = y.size) : wrOfG w g y alt (some (.cells cs t (0, 0))) = .ok () (w.setRow g y) := by
  simp [wrOfG, h]
theorem wrG (P : Program) (w : World) (g : Nat) (y : Array Value) (hy : ∀ v ∈ y.toList, v.oneCell' = true) : (storeCells ⟨g, 0, none⟩ y.toList 0).run P w = wrOfG w g y (altWrG P g y w) (objAt w g) := by
  unfold wrOfG altWrG objAt
  split
  · rename_i cs t h
    by_cases hs : cs.size = y.size
    · rw [if_pos hs]
      have := run_storeCells_at P g 0 t y.toList 0 cs w h (by simp [hs]) hy
      rw [this]
      congr 2
      have e : List.drop (0 + 0 + y.toList.length) cs.toList = [] := List.drop_eq_nil_of_le (by simp [hs])
      rw [e]; simp
    · rw [if_neg hs]
  · rfl
theorem exec_build {P : Program} {o : Oper} {a : Act} {v : Value} {w : World} (t : TypeId) (parts : Array (Nat × Operand)) (ho : o.op = .build t parts) (ps : Array (Nat × Value)) (hp : (parts.map fun (i, x) => (i, a.eval x)) = ps) (h : (Instr.build t ps).run P w = .ok v w) :
    (execOp a.eval o).run P w = .ok (.value v) w := by
  subst hp
  simp [execOp, ho, h, Result.andThen]
theorem kbl_one (r : Nat) (K D : Nat → BitVec 32) : ∀ v ∈ (kbl r K D).toList, v.oneCell' = true := fun v hv => by
  simp only [kbl, List.mem_cons, List.mem_append, wds60, List.mem_map] at hv
  rcases hv with rfl | ⟨_, _, rfl⟩ | ⟨_, _, rfl⟩ <;> rfl
end Go.Proofs.YtfcdldcekdbckacDoor
