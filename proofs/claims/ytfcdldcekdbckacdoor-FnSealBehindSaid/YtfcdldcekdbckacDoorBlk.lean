/- Blocks of sixteen bytes in memory and as values: 'blk x' is the row of cells of 128 bits; what the walk does with such a row. -/
import Derived.Test.YtfcdldcekdbckacDoorWd
import Derived.Test.YtfcdldcekdbckacDoorBytes
import Derived.Laws.Rows
import Derived.Laws.StructEq
import Derived.Laws.Tables
import Derived.KernelRfl
namespace Go.Proofs.YtfcdldcekdbckacDoor
open Go.RowKit Gf

def blkL (x : BitVec 128) : List Value := (List.range 16).map (fun i => Value.int .u8 (n8 (byte x i)))
/-- The cells of a block. -/
def blk (x : BitVec 128) : Array Value := (blkL x).toArray

@[go_sem] theorem blk_size (x : BitVec 128) : (blk x).size = 16 := by simp [blk, blkL]
@[go_sem] theorem blk_get (x : BitVec 128) (i : Nat) (h : i < 16) : (blk x)[i]? = some (.int .u8 (n8 (byte x i))) := by
  simp [blk, blkL, h]
@[go_sem] theorem blk_getE (x : BitVec 128) (i : Nat) (h : i < (blk x).size) : (blk x)[i] = .int .u8 (n8 (byte x i)) := by
  have h' : i < 16 := by rw [blk_size] at h; exact h
  have := blk_get x i h'
  rw [Array.getElem?_eq_getElem h] at this
  exact Option.some.inj this
@[go_sem] theorem blk_set (x : BitVec 128) (i : Nat) (b : BitVec 8) (h : i < 16) : (blk x).setIfInBounds i (.int .u8 (n8 b)) = blk (setB x i b) := by
  apply Array.ext_getElem?
  intro j
  by_cases hj : j < 16
  · rw [blk_get _ j hj, byte_setB _ _ _ _ hj, Array.getElem?_setIfInBounds]
    by_cases e : i = j
    · subst e; simp [blk_size, h]
    · have e' : ¬ j = i := fun h => e h.symm
      simp [e, e', blk_get _ j hj]
  · rw [Array.getElem?_eq_none (by simp [blk_size]; omega), Array.getElem?_eq_none (by simp [blk_size]; omega)]
theorem blk_inj {x y : BitVec 128} (h : blk x = blk y) : x = y := bytes_ext fun i hi => by
  have := congrArg (fun a : Array Value => a[i]?) h
  simp only [blk_get _ i hi, Option.some.injEq, Value.int.injEq, true_and] at this
  exact n8_inj this
theorem blk_of (f : Nat → BitVec 8) (l : List Value) (h : l = (List.range 16).map (fun i => Value.int .u8 (n8 (f i)))) : l.toArray = blk (ofBytes f) := by
  subst h
  unfold blk blkL
  congr 1
  apply List.map_congr_left
  intro i hi
  rw [byte_of f i (List.mem_range.1 hi)]

def zeroL : List Value := [.int .u8 0, .int .u8 0, .int .u8 0, .int .u8 0, .int .u8 0, .int .u8 0, .int .u8 0, .int .u8 0, .int .u8 0, .int .u8 0, .int .u8 0, .int .u8 0, .int .u8 0, .int .u8 0, .int .u8 0, .int .u8 0]
theorem zero_blk : zeroL.toArray = blk 0#128 := by
  rw [blk_of (fun _ => 0#8) zeroL rfl]
  exact congrArg blk (bytes_ext fun i hi => by rw [byte_of _ i hi, byte_zero])
@[go_sem] theorem zero_blk' : (#[.int .u8 0, .int .u8 0, .int .u8 0, .int .u8 0, .int .u8 0, .int .u8 0, .int .u8 0, .int .u8 0, .int .u8 0, .int .u8 0, .int .u8 0, .int .u8 0, .int .u8 0, .int .u8 0, .int .u8 0, .int .u8 0] : Array Value) = blk 0#128 := zero_blk
theorem one_bytes : (List.range 16).all (fun i => (if i = 0 then 128#8 else 0#8) == byte e0 i) = true := by decide +kernel
theorem one_blk : ([.int .u8 128, .int .u8 0, .int .u8 0, .int .u8 0, .int .u8 0, .int .u8 0, .int .u8 0, .int .u8 0, .int .u8 0, .int .u8 0, .int .u8 0, .int .u8 0, .int .u8 0, .int .u8 0, .int .u8 0, .int .u8 0] : List Value).toArray = blk e0 := by
  rw [blk_of (fun i => if i = 0 then 128#8 else 0#8) _ (by rfl)]
  exact congrArg blk (bytes_ext fun i hi => by
    rw [byte_of _ i hi]
    have h := List.all_eq_true.1 one_bytes i (List.mem_range.2 hi)
    simpa using h)
@[go_sem] theorem one_blk' : (#[.int .u8 128, .int .u8 0, .int .u8 0, .int .u8 0, .int .u8 0, .int .u8 0, .int .u8 0, .int .u8 0, .int .u8 0, .int .u8 0, .int .u8 0, .int .u8 0, .int .u8 0, .int .u8 0, .int .u8 0, .int .u8 0] : Array Value) = blk e0 := one_blk

/-! ### A whole block read and written -/

/-- A block, behind a name. -/
def objAt (w : World) (g : Nat) : Option Obj := w.heap[g]?
@[go_sem] theorem objAt_alloc_at (w : World) (o : Obj) (n : Nat) (h : n = w.heap.size) : objAt (w.alloc o) n = some o := by subst h; exact heap_alloc_new w o
@[go_sem] theorem objAt_alloc_past (w : World) (o : Obj) (n : Nat) (h : n < w.heap.size) : objAt (w.alloc o) n = objAt w n := Below.heap_alloc w o n h
@[go_sem] theorem objAt_drew (w : World) (n : Nat) : objAt w.drew n = objAt w n := rfl
@[go_sem] theorem objAt_drewN (w : World) (k n : Nat) : objAt (w.drewN k) n = objAt w n := rfl
@[go_sem] theorem objAt_setRow (w : World) (k n : Nat) (D : Array Value) (h : n ≠ k) : objAt (w.setRow k D) n = objAt w n := setRow_other w k n D h
@[go_sem] theorem objAt_setCell (w : World) (b i : Nat) (v : Value) (n : Nat) (h : n ≠ b) : objAt (w.setCell ⟨b, i, none⟩ v) n = objAt w n := Below.heap_setCell w ⟨b, i, none⟩ v n h
theorem objAt_cell {w : World} {g : Nat} {cs : Array Value} {t : TypeId} {fr : Nat × Nat} (h : objAt w g = some (.cells cs t fr)) (j : Nat) : w.cell? ⟨g, j, none⟩ = cs[j]? := cell_of_row w g j cs t fr h
theorem objAt_free {w : World} {g : Nat} {cs : Array Value} {t : TypeId} (h : objAt w g = some (.cells cs t (0, 0))) (j : Nat) : w.frozen? ⟨g, j, none⟩ = false := frozen_of_row w g j cs t h
theorem objAt_set {w : World} {g : Nat} {cs : Array Value} {t : TypeId} {fr : Nat × Nat} (h : objAt w g = some (.cells cs t fr)) (i : Nat) (v : Value) :
    objAt (w.setCell ⟨g, i, none⟩ v) g = some (.cells (cs.setIfInBounds i v) t fr) := by
  unfold objAt World.setCell at *
  rw [Array.getElem?_modify]
  simp [h]
theorem objAt_setRow_same {w : World} {g : Nat} {cs : Array Value} {t : TypeId} {fr : Nat × Nat} (h : objAt w g = some (.cells cs t fr)) (D : Array Value) :
    objAt (w.setRow g D) g = some (.cells D t fr) := setRow_heap w g cs D t fr h
theorem oa_lt {w : World} {g : Nat} {o : Obj} (h : objAt w g = some o) : g < w.heap.size := (Array.getElem?_eq_some_iff.1 h).1
theorem oa_alloc {w : World} {n : Nat} {x : Obj} (h : objAt w n = some x) (o : Obj) : objAt (w.alloc o) n = some x := (objAt_alloc_past w o n (oa_lt h)).trans h
theorem oa_set {w : World} {n : Nat} {x : Obj} (h : objAt w n = some x) {b : Nat} (hne : n ≠ b) (i : Nat) (v : Value) : objAt (w.setCell ⟨b, i, none⟩ v) n = some x := (objAt_setCell w b i v n hne).trans h
theorem oa_row {w : World} {n : Nat} {x : Obj} (h : objAt w n = some x) {b : Nat} (hne : n ≠ b) (D : Array Value) : objAt (w.setRow b D) n = some x := (objAt_setRow w b n D hne).trans h
theorem oa_drew {w : World} {n : Nat} {x : Obj} (h : objAt w n = some x) : objAt w.drew n = some x := h
theorem oa_drewN {w : World} {n : Nat} {x : Obj} (h : objAt w n = some x) (k : Nat) : objAt (w.drewN k) n = some x := h
theorem oa_below {w w' : World} {B n : Nat} {x : Obj} (h : objAt w n = some x) (hb : Below B w w') (hn : n < B) : objAt w' n = some x := (hb.block n hn).trans h
theorem objAt_lt {w : World} {g : Nat} {o : Obj} (h : objAt w g = some o) : g < w.heap.size := (Array.getElem?_eq_some_iff.1 h).1
theorem setRow_alloc_at (w : World) (C D : Array Value) (t : TypeId) (n : Nat) (h : n = w.heap.size) : (w.alloc (.cells C t)).setRow n D = w.alloc (.cells D t) := by
  subst h
  unfold World.setRow World.alloc
  congr 1
  apply Array.ext_getElem?
  intro j
  rw [Array.getElem?_modify, Array.getElem?_push, Array.getElem?_push]
  by_cases e : j = w.heap.size
  · subst e; simp
  · have e' : ¬ w.heap.size = j := fun h => e h.symm
    simp [e, e']
theorem setRow_alloc_past (w : World) (o : Obj) (D : Array Value) (n : Nat) (h : n < w.heap.size) : (w.alloc o).setRow n D = (w.setRow n D).alloc o := by
  unfold World.setRow World.alloc
  congr 1
  apply Array.ext_getElem?
  intro j
  rw [Array.getElem?_modify, Array.getElem?_push, Array.getElem?_push, Array.getElem?_modify]
  simp only [Array.size_modify]
  by_cases e : j = w.heap.size
  · subst e
    have : ¬ n = w.heap.size := by omega
    simp [this]
  · simp [e]
attribute [go_sem] setRow_alloc_at setRow_alloc_past
@[go_sem] theorem setRow_drew (w : World) (n : Nat) (D : Array Value) : w.drew.setRow n D = (w.setRow n D).drew := rfl

@[go_sem] theorem setRow_drewN (w : World) (n k : Nat) (D : Array Value) : (w.drewN k).setRow n D = (w.setRow n D).drewN k := rfl
@[go_sem] theorem setCell_drewN' (w : World) (k : Nat) (a : Addr) (v : Value) : (w.drewN k).setCell a v = (w.setCell a v).drewN k := rfl
@[go_sem] theorem alloc_drewN' (w : World) (k : Nat) (o : Obj) : (w.drewN k).alloc o = (w.alloc o).drewN k := rfl
theorem drewN_drew (w : World) (k : Nat) : (w.drewN k).drew = w.drewN (k + 1) := rfl
theorem bel_drewN {B : Nat} {a w : World} (h : Below B a w) (k : Nat) : Below B a (w.drewN k) := ⟨h.os, h.tape, h.output, h.size, h.block⟩

/-- What a whole read gives, out of the block that is read: as the walk's simp meets it, down at the cells. -/
def rdOf (w : World) (alt : Result (Array Value)) : Option Obj → Result (Array Value)
  | some (.cells cs _ _) => if cs.size = 16 then .ok cs w else alt
  | _ => alt
def altRd (P : Program) (g : Nat) (w : World) : Result (Array Value) := (loadCellsFrom ⟨g, 0, none⟩ 0 16 #[]).run P w
@[go_sem] theorem rdOf_blk (w : World) (alt : Result (Array Value)) (x : BitVec 128) (t : TypeId) (fr : Nat × Nat) : rdOf w alt (some (.cells (blk x) t fr)) = .ok (blk x) w := by
  simp [rdOf, blk_size]
theorem rd16 (P : Program) (w : World) (g : Nat) : (loadCellsFrom ⟨g, 0, none⟩ 0 16 #[]).run P w = rdOf w (altRd P g w) (objAt w g) := by
  unfold rdOf altRd objAt
  split
  · rename_i cs t fr h
    by_cases hs : cs.size = 16
    · rw [if_pos hs]
      have := run_loadCells_list (P := P) w ⟨g, 0, none⟩ cs.toList (fun j v hv => by
        have hadd : (⟨g, 0, none⟩ : Addr).add j = ⟨g, j, none⟩ := by unfold Addr.add; split <;> simp_all
        rw [hadd, cell_of_row w g j cs t fr h]
        simpa using hv)
      rw [Array.length_toList, hs] at this
      simpa [loadCells] using this
    · rw [if_neg hs]
  · rfl
attribute [go_sem ↓] rd16

/-- What a whole write does, out of the block that is written. -/
def wrOf (w : World) (g : Nat) (y : BitVec 128) (alt : Result Unit) : Option Obj → Result Unit
  | some (.cells cs _ (0, 0)) => if cs.size = 16 then .ok () (w.setRow g (blk y)) else alt
  | _ => alt
def altWr (P : Program) (g : Nat) (y : BitVec 128) (w : World) : Result Unit := (storeCells ⟨g, 0, none⟩ (blk y).toList 0).run P w
@[go_sem] theorem wrOf_blk (w : World) (g : Nat) (y : BitVec 128) (alt : Result Unit) (x : BitVec 128) (t : TypeId) : wrOf w g y alt (some (.cells (blk x) t (0, 0))) = .ok () (w.setRow g (blk y)) := by
  simp [wrOf, blk_size]
theorem wr16 (w : World) (g : Nat) (y : BitVec 128) : (storeCells ⟨g, 0, none⟩ (blk y).toList 0).run Tryd.prog w = wrOf w g y (altWr Tryd.prog g y w) (objAt w g) := by
  unfold wrOf altWr objAt
  split
  · rename_i cs t h
    by_cases hs : cs.size = 16
    · rw [if_pos hs]
      have hi : (Tryd.prog.info? 69).map (·.size) = some (blk y).size := by rw [blk_size]; kernel_rfl
      have := run_storeVar_row (P := Tryd.prog) w g t 69 cs (blk y) h hi (by rw [hs, blk_size]) (by simp [blk, blkL, Value.oneCell'])
      cases hq : Tryd.prog.info? 69 with
      | none => simp [hq] at hi
      | some i =>
        have hz : (blk y).size = i.size := by simp [hq] at hi; omega
        simpa [storeVar, sizeOf, typeInfo, hq, Value.cells, hz] using this
    · rw [if_neg hs]
  · rfl
attribute [go_sem ↓] wr16

/-- A block as the one result. -/
theorem retA {fn : Func} {p : Tmp} (h : fn.results = #[.cell p 69]) {tmps : Array Value} {w : World} {g : Nat} {t : TypeId} {fr : Nat × Nat} {x : BitVec 128}
    (hp : tmps.getD p undef = .pointer (some ⟨g, 0, none⟩)) (hg : objAt w g = some (.cells (blk x) t fr)) : (results fn tmps).run Tryd.prog w = .ok (.agg (blk x)) w :=
  results_cell_row h tmps w g t (blk x) fr _ hp hg Tryd.underlying69 rfl (by rw [blk_size]; kernel_rfl)
theorem retB {fn : Func} {p : Tmp} (h : fn.results = #[.cell p 69]) {tmps : Array Value} {w : World} {g : Nat} {t : TypeId} {fr : Nat × Nat} {x : BitVec 128}
    (hp : tmps.getD p undef = .pointer (some ⟨g, 0, none⟩)) (hg : objAt w g = some (.cells (blk x) t fr)) : (results fn tmps).run Tryd.prog w = .ok (.agg (blk x)) w :=
  results_cell_row h tmps w g t (blk x) fr _ hp hg Tryd.underlying69 rfl (by rw [blk_size]; kernel_rfl)
theorem bel_setRow {B : Nat} {a w : World} (h : Below B a w) {g : Nat} (hg : B ≤ g) (cs : Array Value) : Below B a (w.setRow g cs) :=
  h.trans ⟨rfl, rfl, rfl, by simp, fun k hk => setRow_other _ _ _ _ (by omega)⟩

/-! ### A call that turns one block of those that were there -/
structure Keeps (g : Nat) (w w' : World) : Prop where
  bel : Below g w w'
  size : w.heap.size ≤ w'.heap.size
  other : ∀ k, k < w.heap.size → k ≠ g → objAt w' k = objAt w k
namespace Keeps
variable {g : Nat} {a w w' : World}
theorem refl (g : Nat) (w : World) : Keeps g w w := ⟨⟨rfl, rfl, rfl, Nat.le_refl _, fun _ _ => rfl⟩, Nat.le_refl _, fun _ _ _ => rfl⟩
theorem trans (h : Keeps g a w) (h' : Keeps g w w') : Keeps g a w' :=
  ⟨h.bel.trans h'.bel, Nat.le_trans h.size h'.size, fun k hk hne => (h'.other k (Nat.lt_of_lt_of_le hk h.size) hne).trans (h.other k hk hne)⟩
theorem set (h : Keeps g a w) (i : Nat) (v : Value) : Keeps g a (w.setCell ⟨g, i, none⟩ v) :=
  ⟨h.bel.setCell (p := ⟨g, i, none⟩) (by simp) _, by simpa using h.size, fun k hk hne => (objAt_setCell w g i v k hne).trans (h.other k hk hne)⟩
theorem row (h : Keeps g a w) (D : Array Value) : Keeps g a (w.setRow g D) :=
  ⟨bel_setRow h.bel (Nat.le_refl _) D, by simpa using h.size, fun k hk hne => (objAt_setRow w g k D hne).trans (h.other k hk hne)⟩
theorem below (h : Keeps g a w) (hg : g < a.heap.size) {B : Nat} (hB : a.heap.size ≤ B) (hb : Below B w w') : Keeps g a w' := by
  refine ⟨h.bel.trans ⟨hb.os, hb.tape, hb.output, hb.size, fun k hk => hb.block k (by omega)⟩, ?_, fun k hk hne => ?_⟩
  · have := hb.size; have := h.size; omega
  · exact (hb.block k (by omega)).trans (h.other k hk hne)
theorem drew (h : Keeps g a w) : Keeps g a w.drew := ⟨h.bel.drew, h.size, h.other⟩
theorem alloc (h : Keeps g a w) (hg : g < a.heap.size) (o : Obj) : Keeps g a (w.alloc o) :=
  h.below hg (Nat.le_refl _) ((Below.refl a.heap.size w).alloc h.size o)
theorem at_ (h : Keeps g a w) {k : Nat} {o : Obj} (ho : objAt a k = some o) (hne : k ≠ g) : objAt w k = some o := (h.other k (oa_lt ho) hne).trans ho
theorem of_below {B : Nat} (h : Below B a w) (hg : g < a.heap.size) (hB : a.heap.size ≤ B) : Keeps g a w := (Keeps.refl g a).below hg hB h
end Keeps
end Go.Proofs.YtfcdldcekdbckacDoor
