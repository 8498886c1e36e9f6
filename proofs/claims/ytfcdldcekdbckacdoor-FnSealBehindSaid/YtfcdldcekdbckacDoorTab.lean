/- The tables, as a walk reads them; a key's words in memory; four bytes read and written. -/
import Derived.Test.YtfcdldcekdbckacDoorBase
import Derived.StillTailTactics
import Derived.BigQuiet
import Derived.BigRegion
import Derived.Handy
import Derived.Lib.Hide
namespace Go.Proofs.YtfcdldcekdbckacDoor
open Go Go.RowKit Gf

/-! ### Spellings -/
@[go_sem] theorem and255_32 (x : BitVec 32) : bits .and .u32 (n32 x) 255 = n32 (wand x 255#32) := (b32 _ _ x _ (ofInt_n32 x) rfl).1
theorem low8 (y : BitVec 32) : (wand y 255#32).toNat = (wext 8 y).toNat := by
  unfold wand wext
  rw [BitVec.toNat_and, BitVec.toNat_setWidth]
  have e : (255#32).toNat = 2 ^ 8 - 1 := rfl
  rw [e, Nat.and_two_pow_sub_one_eq_mod]
theorem top8 (x : BitVec 32) : (wshr x 24).toNat = (wext 8 (wshr x 24)).toNat := by
  unfold wext wshr
  rw [BitVec.toNat_setWidth, BitVec.toNat_ushiftRight, Nat.shiftRight_eq_div_pow]
  have := x.isLt
  omega
@[go_sem] theorem n8_lt (b : BitVec 8) : n8 b < 256 := n8_hi b
@[go_sem] theorem n8_ge (b : BitVec 8) : 0 ≤ n8 b := n8_lo b
@[go_sem] theorem n32_ge (b : BitVec 32) : 0 ≤ n32 b := n32_lo b
@[go_sem] theorem n32_low (y : BitVec 32) : n32 (wand y 255#32) < 256 := by unfold n32; rw [low8]; have := (wext 8 y).isLt; omega
@[go_sem] theorem n32_top (y : BitVec 32) : n32 (wshr y 24) < 256 := by unfold n32; rw [top8]; have := (wext 8 (wshr y 24)).isLt; omega
theorem n32_nat (x : BitVec 32) : (n32 x).toNat = x.toNat := by unfold n32; simp
theorem n8_nat (x : BitVec 8) : (n8 x).toNat = x.toNat := by unfold n8; simp

/-! ### The tables -/
structure Tab where
  e0 : Nat → BitVec 32
  e1 : Nat → BitVec 32
  e2 : Nat → BitVec 32
  e3 : Nat → BitVec 32
  d0 : Nat → BitVec 32
  d1 : Nat → BitVec 32
  d2 : Nat → BitVec 32
  d3 : Nat → BitVec 32
  sb : Nat → BitVec 8
  px : Nat → BitVec 8
/-- A variable's block holds words, or bytes. -/
def Ws (w : World) (g : Nat) (f : Nat → BitVec 32) : Prop := ∀ i, i < 256 → w.cell? ⟨g, i, none⟩ = some (.int .u32 (n32 (f i)))
def Bs (w : World) (g n : Nat) (f : Nat → BitVec 8) : Prop := ∀ i, i < n → w.cell? ⟨g, i, none⟩ = some (.int .u8 (n8 (f i)))
/-- How many variables the program has. -/
def nG : Nat := 11
structure TabAt (T : Tab) (w : World) : Prop where
  sz : nG ≤ w.heap.size
  e0 : Ws w 7 T.e0
  e1 : Ws w 8 T.e1
  e2 : Ws w 9 T.e2
  e3 : Ws w 10 T.e3
  d0 : Ws w 2 T.d0
  d1 : Ws w 4 T.d1
  d2 : Ws w 5 T.d2
  d3 : Ws w 6 T.d3
  sb : Bs w 3 256 T.sb
  px : Bs w 1 16 T.px
theorem Ws.byte {w : World} {g : Nat} {f : Nat → BitVec 32} (h : Ws w g f) (b : BitVec 8) : w.cell? ⟨g, (n8 b).toNat, none⟩ = some (.int .u32 (n32 (f b.toNat))) := by
  rw [n8_nat]; exact h _ b.isLt
theorem Bs.low {w : World} {g : Nat} {f : Nat → BitVec 8} (h : Bs w g 256 f) (x : BitVec 32) : w.cell? ⟨g, (n32 (wand x 255#32)).toNat, none⟩ = some (.int .u8 (n8 (f (wand x 255#32).toNat))) := by
  rw [n32_nat]; exact h _ (by rw [low8]; exact (wext 8 x).isLt)
theorem Bs.top {w : World} {g : Nat} {f : Nat → BitVec 8} (h : Bs w g 256 f) (x : BitVec 32) : w.cell? ⟨g, (n32 (wshr x 24)).toNat, none⟩ = some (.int .u8 (n8 (f (wshr x 24).toNat))) := by
  rw [n32_nat]; exact h _ (by rw [top8]; exact (wext 8 (wshr x 24)).isLt)
theorem Ws.same {w w' : World} {g : Nat} {f : Nat → BitVec 32} (h : Ws w g f) (hg : w'.heap[g]? = w.heap[g]?) : Ws w' g f := fun i hi => (cell_same hg i).trans (h i hi)
theorem Bs.same {w w' : World} {g n : Nat} {f : Nat → BitVec 8} (h : Bs w g n f) (hg : w'.heap[g]? = w.heap[g]?) : Bs w' g n f := fun i hi => (cell_same hg i).trans (h i hi)
theorem TabAt.same {T : Tab} {w w' : World} (h : TabAt T w) (hs : w.heap.size ≤ w'.heap.size) (hg : ∀ g, g < nG → w'.heap[g]? = w.heap[g]?) : TabAt T w' :=
  ⟨Nat.le_trans h.sz hs, h.e0.same (hg _ (by decide)), h.e1.same (hg _ (by decide)), h.e2.same (hg _ (by decide)), h.e3.same (hg _ (by decide)), h.d0.same (hg _ (by decide)), h.d1.same (hg _ (by decide)), h.d2.same (hg _ (by decide)), h.d3.same (hg _ (by decide)),
    h.sb.same (hg _ (by decide)), h.px.same (hg _ (by decide))⟩
theorem TabAt.below {T : Tab} {w w' : World} {B : Nat} (h : TabAt T w) (hb : Below B w w') (hB : nG ≤ B) : TabAt T w' := h.same hb.size fun g hg => hb.block g (by omega)
theorem TabAt.keeps {T : Tab} {w w' : World} {g : Nat} (h : TabAt T w) (hk : Keeps g w w') (hg : nG ≤ g) : TabAt T w' := h.same hk.size fun k hk' => hk.other k (by have := h.sz; omega) (by omega)
theorem TabAt.drewN {T : Tab} {w : World} (h : TabAt T w) (n : Nat) : TabAt T (w.drewN n) := h.same (Nat.le_refl _) fun _ _ => rfl

/-! ### A key's words -/
/-- An array begins with how many rounds there are, and sixty words. -/
def KeyC (cs : Array Value) (r : Nat) (K : Nat → BitVec 32) : Prop := cs[0]? = some (.int .i64 (r : Int)) ∧ ∀ i, i < 60 → cs[1 + i]? = some (.int .u32 (n32 (K i)))
def KeyAt (w : World) (B r : Nat) (K : Nat → BitVec 32) : Prop := ∃ cs t fr, objAt w B = some (.cells cs t fr) ∧ KeyC cs r K
theorem KeyAt.zero {w : World} {B r : Nat} {K : Nat → BitVec 32} (h : KeyAt w B r K) : w.cell? ⟨B, 0, none⟩ = some (.int .i64 (r : Int)) := by
  obtain ⟨cs, t, fr, ho, hc⟩ := h
  rw [objAt_cell ho]; exact hc.1
theorem KeyAt.word {w : World} {B r : Nat} {K : Nat → BitVec 32} (h : KeyAt w B r K) (i : Nat) (hi : i < 60) : w.cell? ⟨B, 1 + i, none⟩ = some (.int .u32 (n32 (K i))) := by
  obtain ⟨cs, t, fr, ho, hc⟩ := h
  rw [objAt_cell ho]; exact hc.2 i hi
theorem KeyAt.lt {w : World} {B r : Nat} {K : Nat → BitVec 32} (h : KeyAt w B r K) : B < w.heap.size := by obtain ⟨cs, t, fr, ho, _⟩ := h; exact oa_lt ho
theorem KeyAt.same {w w' : World} {B r : Nat} {K : Nat → BitVec 32} (h : KeyAt w B r K) (hs : objAt w' B = objAt w B) : KeyAt w' B r K := by
  obtain ⟨cs, t, fr, ho, hc⟩ := h
  exact ⟨cs, t, fr, hs.trans ho, hc⟩
theorem KeyAt.keeps {w w' : World} {B r g : Nat} {K : Nat → BitVec 32} (h : KeyAt w B r K) (hk : Keeps g w w') (hne : B ≠ g) : KeyAt w' B r K := h.same (hk.other B h.lt hne)
theorem KeyAt.below {w w' : World} {B r n : Nat} {K : Nat → BitVec 32} (h : KeyAt w B r K) (hb : Below n w w') (hn : B < n) : KeyAt w' B r K := h.same (hb.block B hn)

theorem keeps_drewN {g : Nat} {a w : World} (h : Keeps g a w) (n : Nat) : Keeps g a (w.drewN n) := ⟨bel_drewN h.bel n, h.size, h.other⟩

/-! ### Four bytes -/
def be32 (a b c d : BitVec 8) : BitVec 32 := wor (wor (wor (wext 32 d) (wshl (wext 32 c) 8)) (wshl (wext 32 b) 16)) (wshl (wext 32 a) 24)
def b4 (v : BitVec 32) : List (BitVec 8) := [wext 8 (wshr v 24), wext 8 (wshr v 16), wext 8 (wshr v 8), wext 8 v]
set_option maxHeartbeats 1000000 in
theorem abe_any (b o n c : Nat) (x0 x1 x2 x3 : BitVec 8) (w : World) (hn : 4 ≤ n) (hn2 : (n : Int) ≤ 9223372036854775807)
    (h0 : w.cell? ⟨b, o, none⟩ = some (.int .u8 (n8 x0))) (h1 : w.cell? ⟨b, o + 1, none⟩ = some (.int .u8 (n8 x1)))
    (h2 : w.cell? ⟨b, o + 2, none⟩ = some (.int .u8 (n8 x2))) (h3 : w.cell? ⟨b, o + 3, none⟩ = some (.int .u8 (n8 x3))) :
    Calls Tryd.prog 47 #[.slice (some ⟨b, o, none⟩) n c] w fun e w' => e = .returned (.int .u32 (n32 (be32 x0 x1 x2 x3))) ∧ ∃ m, w' = w.drewN m := by
  have k0 : (0 : Int) < (n : Int) := by omega
  have k1 : (1 : Int) < (n : Int) := by omega
  have k2 : (2 : Int) < (n : Int) := by omega
  have k3 : (3 : Int) < (n : Int) := by omega
  go_enter Tryd.func47, Tryd.ntmps47
  go_wp2
  go_quiet (fail)
  go_wp2
  go_ret
  exact ⟨rfl, _, rfl⟩

set_option maxHeartbeats 1000000 in
theorem aput_any (g o n c : Nat) (cs : Array Value) (v : BitVec 32) (t : TypeId) (w : World) (hr : ByteRoom cs o 4) (hn : 4 ≤ n) (hn2 : (n : Int) ≤ 9223372036854775807)
    (hg : objAt w g = some (.cells cs t (0, 0))) :
    Calls Tryd.prog 51 #[.slice (some ⟨g, o, none⟩) n c, .int .u32 (n32 v)] w fun e w' => e = .returned (.tuple #[]) ∧ objAt w' g = some (.cells (putL cs o (b4 v)) t (0, 0)) ∧ Keeps g w w' := by
  have k0 : (0 : Int) < (n : Int) := by omega
  have k1 : (1 : Int) < (n : Int) := by omega
  have k2 : (2 : Int) < (n : Int) := by omega
  have k3 : (3 : Int) < (n : Int) := by omega
  have g0 := objAt_set hg o (.int .u8 (n8 (wext 8 (wshr v 24))))
  have g1 := objAt_set g0 (o + 1) (.int .u8 (n8 (wext 8 (wshr v 16))))
  have g2 := objAt_set g1 (o + 2) (.int .u8 (n8 (wext 8 (wshr v 8))))
  have g3 := objAt_set g2 (o + 3) (.int .u8 (n8 (wext 8 v)))
  obtain ⟨y0, r0⟩ := hr.get 0 (by decide)
  rw [Nat.add_zero] at r0
  obtain ⟨y1, r1⟩ := hr.get 1 (by decide)
  obtain ⟨y2, r2⟩ := hr.get 2 (by decide)
  obtain ⟨y3, r3⟩ := hr.get 3 (by decide)
  have c3 := (objAt_cell hg (o + 3)).trans r3
  have c0' := (objAt_cell hg o).trans r0
  have c1' := (objAt_cell g0 (o + 1)).trans ((Array.getElem?_setIfInBounds_ne (by omega)).trans r1)
  have c2' := (objAt_cell g1 (o + 2)).trans ((Array.getElem?_setIfInBounds_ne (by omega)).trans ((Array.getElem?_setIfInBounds_ne (by omega)).trans r2))
  have c3' := (objAt_cell g2 (o + 3)).trans ((Array.getElem?_setIfInBounds_ne (by omega)).trans ((Array.getElem?_setIfInBounds_ne (by omega)).trans ((Array.getElem?_setIfInBounds_ne (by omega)).trans r3)))
  have f0 := objAt_free hg o
  have f1 := objAt_free g0 (o + 1)
  have f2 := objAt_free g1 (o + 2)
  have f3 := objAt_free g2 (o + 3)
  have G3 := Lib.hid g3
  clear g0 g1 g2 g3 r0 r1 r2 r3 hg hr
  go_enter Tryd.func51, Tryd.ntmps51
  go_wp2
  refine bodyPost_end (v := .tuple #[]) (by simp [results, Tryd.results51, go_sem]) rfl ⟨rfl, G3.out, ?_⟩
  exact ((((Keeps.refl g w).set _ _).set _ _).set _ _).set _ _
theorem achk_any (w : World) : Calls Tryd.prog 46 #[] w fun e w' => e = .returned (.tuple #[]) ∧ w' = w := by
  go_enter Tryd.func46, Tryd.ntmps46
  go_wp2
  exact bodyPost_end (v := .tuple #[]) (by simp [results, Tryd.results46, go_sem]) rfl ⟨rfl, rfl⟩
end Go.Proofs.YtfcdldcekdbckacDoor
