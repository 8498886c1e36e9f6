import Derived.Test.YtfcdldcekdbckacDoorGh
import Derived.Test.YtfcdldcekdbckacDoorChainT
import Derived.Test.YtfcdldcekdbckacDoorChainW
import Derived.Shelf.Abstract
namespace Go.Proofs.YtfcdldcekdbckacDoor
open Go Go.RowKit Gf
attribute [local go_sem] Oper.semAt_some
theorem be_blk (g i n c : Nat) (x : BitVec 128) (t : TypeId) (fr : Nat × Nat) (w : World) (hi : i < 4) (hn : 4 ≤ n) (hn2 : (n : Int) ≤ 9223372036854775807) (hg : objAt w g = some (.cells (blk x) t fr)) :
    Calls Tryd.prog 42 #[.slice (some ⟨g, 4 * i, none⟩) n c] w fun e w' => e = .returned (.int .u32 (n32 (wd x (3 - i)))) ∧ ∃ m, w' = w.drewN m := by
  rw [← wd_be x i hi]
  exact be_any g (4 * i) n c _ _ _ _ w hn hn2 ((objAt_cell hg _).trans (blk_get _ _ (by omega))) ((objAt_cell hg _).trans (blk_get _ _ (by omega))) ((objAt_cell hg _).trans (blk_get _ _ (by omega))) ((objAt_cell hg _).trans (blk_get _ _ (by omega)))

/-- The words of h, as far as the first loop has laid them. -/
def hTo (h : BitVec 128) : Nat → Array Value
  | 0 => #[.int .u32 0, .int .u32 0, .int .u32 0, .int .u32 0]
  | 1 => #[.int .u32 0, .int .u32 0, .int .u32 0, .int .u32 (n32 (wd h 3))]
  | 2 => #[.int .u32 0, .int .u32 0, .int .u32 (n32 (wd h 2)), .int .u32 (n32 (wd h 3))]
  | 3 => #[.int .u32 0, .int .u32 (n32 (wd h 1)), .int .u32 (n32 (wd h 2)), .int .u32 (n32 (wd h 3))]
  | _ => wds h
theorem wds_zero : wds 0#128 = #[.int .u32 0, .int .u32 0, .int .u32 0, .int .u32 0] := by kernel_rfl
theorem drewN_add (w : World) (a b : Nat) : w.drewN (a + b) = (w.drewN a).drewN b := by simp [World.drewN, Nat.add_assoc]
/-- The words of y, x added as far as the round's first loop has come. -/
def yTo (y x : BitVec 128) : Nat → Array Value
  | 0 => wds y
  | 1 => #[.int .u32 (n32 (wd y 0)), .int .u32 (n32 (wd y 1)), .int .u32 (n32 (wd y 2)), .int .u32 (n32 (wxor (wd y 3) (wd x 3)))]
  | 2 => #[.int .u32 (n32 (wd y 0)), .int .u32 (n32 (wd y 1)), .int .u32 (n32 (wxor (wd y 2) (wd x 2))), .int .u32 (n32 (wxor (wd y 3) (wd x 3)))]
  | 3 => #[.int .u32 (n32 (wd y 0)), .int .u32 (n32 (wxor (wd y 1) (wd x 1))), .int .u32 (n32 (wxor (wd y 2) (wd x 2))), .int .u32 (n32 (wxor (wd y 3) (wd x 3)))]
  | _ => wds (y ^^^ x)
theorem Keeps.drewN {g : Nat} {a w : World} (h : Keeps g a w) (k : Nat) : Keeps g a (w.drewN k) := ⟨bel_drewN h.bel k, h.size, h.other⟩
def lenOf' : Value → Nat
  | .int _ z => z.toNat
  | _ => 0

/-- The hash, block by block. -/
def yk (S : List (BitVec 128)) (h : BitVec 128) : Nat → BitVec 128
  | 0 => 0#128
  | k + 1 => gmul (yk S h k ^^^ S.getD k 0#128) h
theorem InAt.move {Y Y' : Nat} {w W : World} {v : Value} {inp : List (List (BitVec 8))} (h : InAt Y w v inp) (hs : w.heap.size ≤ W.heap.size) (hY' : w.heap.size ≤ Y')
    (hk : ∀ b, b < w.heap.size → b ≠ Y → W.heap[b]? = w.heap[b]?) : InAt Y' W v inp := by
  obtain ⟨p, c, h1, h2, h3, h4⟩ := h
  refine ⟨p, c, h1, h2, h3, h4.imp id ?_⟩
  rintro ⟨b, o, h5, h6, h7, h8⟩
  refine ⟨b, o, h5, by omega, by omega, fun i bs hi => ?_⟩
  obtain ⟨rv, hrv, p', c', g1, g2, g3, g4⟩ := h8 i bs hi
  refine ⟨rv, (cell_same (hk b h7 h6) _).trans hrv, p', c', g1, g2, g3, g4.imp id ?_⟩
  rintro ⟨b', o', g5, g6, g7, g8⟩
  exact ⟨b', o', g5, by omega, by omega, fun i x hx => (cell_same (hk b' g7 g6) _).trans (g8 i x hx)⟩
theorem FitsB.put {Y : Nat} {S : List (BitVec 128)} (k : Nat) (v : Value) (W : World) (l : Nat) (o o' : Obj) (hl : W.heap[l]? = some o) (ho : o.isCells = false) (h : FitsB Y S k v W) : FitsB Y S k v (W.putObj l o') := by
  obtain ⟨b, of, c, x, h1, h2, h3, h4, h5, h6⟩ := h
  refine ⟨b, of, c, x, h1, h2, h3, h4, h5, fun i hi => ?_⟩
  have hc := h6 i hi
  obtain ⟨ob, hob, hoc⟩ := cells_of_cell hc
  have hne : b ≠ l := by
    rintro rfl
    have e : o = ob := Option.some.inj (hl.symm.trans hob)
    rw [e, hoc] at ho
    cases ho
  exact (cell_same (World.putObj_heap_other hne) _).trans hc

/-- The state while the products are made: the words of y and of h, and the three rows of products; nothing that was there at W0 has turned but y. -/
structure GSt (W0 : World) (Y A : Nat) (y h : BitVec 128) (L M S : Array Value) (w : World) : Prop where
  ya : Y < W0.heap.size
  wa : W0.heap.size ≤ A
  yl : Y + 1 < A
  sz : A + 1 + 1 < w.heap.size
  kp : Keeps Y W0 w
  cy : objAt w Y = some (.cells (wds y) 86 (0, 0))
  ch : objAt w (Y + 1) = some (.cells (wds h) 86 (0, 0))
  cl : objAt w A = some (.cells L 89 (0, 0))
  cm : objAt w (A + 1) = some (.cells M 89 (0, 0))
  cs : objAt w (A + 1 + 1) = some (.cells S 89 (0, 0))
theorem Keeps.fresh {g : Nat} {a w : World} (h : Keeps g a w) (hg : g < a.heap.size) {b : Nat} (hb : a.heap.size ≤ b) (i : Nat) (v : Value) : Keeps g a (w.setCell ⟨b, i, none⟩ v) :=
  h.below hg (Nat.le_refl _) ((Below.refl a.heap.size w).setCell (p := ⟨b, i, none⟩) hb _)
namespace GSt
variable {W0 : World} {Y A : Nat} {y h : BitVec 128} {L M S : Array Value} {w w' : World}
theorem below (s : GSt W0 Y A y h L M S w) (hb : Below w.heap.size w w') : GSt W0 Y A y h L M S w' :=
  ⟨s.ya, s.wa, s.yl, Nat.lt_of_lt_of_le s.sz hb.size, s.kp.below s.ya s.kp.size hb, oa_below s.cy hb (oa_lt s.cy), oa_below s.ch hb (oa_lt s.ch), oa_below s.cl hb (oa_lt s.cl), oa_below s.cm hb (oa_lt s.cm), oa_below s.cs hb (oa_lt s.cs)⟩
theorem drewN (s : GSt W0 Y A y h L M S w) (m : Nat) : GSt W0 Y A y h L M S (w.drewN m) := ⟨s.ya, s.wa, s.yl, s.sz, s.kp.drewN m, s.cy, s.ch, s.cl, s.cm, s.cs⟩
theorem setL (s : GSt W0 Y A y h L M S w) (i : Nat) (v : Value) : GSt W0 Y A y h (L.setIfInBounds i v) M S (w.setCell ⟨A, i, none⟩ v) := by
  have := s.yl
  exact ⟨s.ya, s.wa, s.yl, by simpa using s.sz, s.kp.fresh s.ya s.wa i v, oa_set s.cy (by omega) i v, oa_set s.ch (by omega) i v, objAt_set s.cl i v, oa_set s.cm (by omega) i v, oa_set s.cs (by omega) i v⟩
theorem setM (s : GSt W0 Y A y h L M S w) (i : Nat) (v : Value) : GSt W0 Y A y h L (M.setIfInBounds i v) S (w.setCell ⟨A + 1, i, none⟩ v) := by
  have := s.yl
  have := s.wa
  exact ⟨s.ya, s.wa, s.yl, by simpa using s.sz, s.kp.fresh s.ya (by omega) i v, oa_set s.cy (by omega) i v, oa_set s.ch (by omega) i v, oa_set s.cl (by omega) i v, objAt_set s.cm i v, oa_set s.cs (by omega) i v⟩
theorem setS (s : GSt W0 Y A y h L M S w) (i : Nat) (v : Value) : GSt W0 Y A y h L M (S.setIfInBounds i v) (w.setCell ⟨A + 1 + 1, i, none⟩ v) := by
  have := s.yl
  have := s.wa
  exact ⟨s.ya, s.wa, s.yl, by simpa using s.sz, s.kp.fresh s.ya (by omega) i v, oa_set s.cy (by omega) i v, oa_set s.ch (by omega) i v, oa_set s.cl (by omega) i v, oa_set s.cm (by omega) i v, objAt_set s.cs i v⟩
theorem setR (s : GSt W0 Y A y h L M S w) {R : Nat} (hR : A + 1 + 1 < R) (i : Nat) (v : Value) : GSt W0 Y A y h L M S (w.setCell ⟨R, i, none⟩ v) := by
  have := s.yl
  have := s.wa
  exact ⟨s.ya, s.wa, s.yl, by simpa using s.sz, s.kp.fresh s.ya (by omega) i v, oa_set s.cy (by omega) i v, oa_set s.ch (by omega) i v, oa_set s.cl (by omega) i v, oa_set s.cm (by omega) i v, oa_set s.cs (by omega) i v⟩
/-- The eight words, as the walk reads them. -/
theorem cells (s : GSt W0 Y A y h L M S w) :
    (w.cell? ⟨Y, 0, none⟩ = some (.int .u32 (n32 (wd y 0))) ∧ w.cell? ⟨Y, 1, none⟩ = some (.int .u32 (n32 (wd y 1))) ∧ w.cell? ⟨Y, 2, none⟩ = some (.int .u32 (n32 (wd y 2))) ∧ w.cell? ⟨Y, 3, none⟩ = some (.int .u32 (n32 (wd y 3)))) ∧
    (w.cell? ⟨Y + 1, 0, none⟩ = some (.int .u32 (n32 (wd h 0))) ∧ w.cell? ⟨Y + 1, 1, none⟩ = some (.int .u32 (n32 (wd h 1))) ∧ w.cell? ⟨Y + 1, 2, none⟩ = some (.int .u32 (n32 (wd h 2))) ∧ w.cell? ⟨Y + 1, 3, none⟩ = some (.int .u32 (n32 (wd h 3)))) :=
  ⟨⟨(objAt_cell s.cy 0).trans rfl, (objAt_cell s.cy 1).trans rfl, (objAt_cell s.cy 2).trans rfl, (objAt_cell s.cy 3).trans rfl⟩,
   ⟨(objAt_cell s.ch 0).trans rfl, (objAt_cell s.ch 1).trans rfl, (objAt_cell s.ch 2).trans rfl, (objAt_cell s.ch 3).trans rfl⟩⟩
end GSt
def z3 : Array Value := #[.int .u64 0, .int .u64 0, .int .u64 0]
def row3 (a b c : BitVec 64) : Array Value := #[.int .u64 (n64 a), .int .u64 (n64 b), .int .u64 (n64 c)]
/-- The halves of a product, as the walk spells them. -/
def loW (l m s : BitVec 64) : BitVec 64 := wxor l (wshl (wxor (wxor s l) m) 32)
def hiW (l m s : BitVec 64) : BitVec 64 := wxor m (wshr (wxor (wxor s l) m) 32)
/-- The three products of 128 bits, as far as the loop has laid them. -/
def rTo (l0 l1 l2 m0 m1 m2 s0 s1 s2 : BitVec 64) : Nat → Array Value
  | 0 => #[.int .u64 0, .int .u64 0, .int .u64 0, .int .u64 0, .int .u64 0, .int .u64 0]
  | 1 => #[.int .u64 (n64 (loW l0 m0 s0)), .int .u64 (n64 (hiW l0 m0 s0)), .int .u64 0, .int .u64 0, .int .u64 0, .int .u64 0]
  | 2 => #[.int .u64 (n64 (loW l0 m0 s0)), .int .u64 (n64 (hiW l0 m0 s0)), .int .u64 (n64 (loW l1 m1 s1)), .int .u64 (n64 (hiW l1 m1 s1)), .int .u64 0, .int .u64 0]
  | _ => #[.int .u64 (n64 (loW l0 m0 s0)), .int .u64 (n64 (hiW l0 m0 s0)), .int .u64 (n64 (loW l1 m1 s1)), .int .u64 (n64 (hiW l1 m1 s1)), .int .u64 (n64 (loW l2 m2 s2)), .int .u64 (n64 (hiW l2 m2 s2))]
def fW (w : BitVec 64) : BitVec 64 := wxor (wxor (wxor w (wshr w 1)) (wshr w 2)) (wshr w 7)
def gW (w : BitVec 64) : BitVec 64 := wxor (wxor (wshl w 63) (wshl w 62)) (wshl w 57)
/-- The four words of the product, as far as the reduction has come. -/
def zTo (a b c d : BitVec 64) : Nat → Array Value
  | 0 => #[.int .u64 (n64 a), .int .u64 (n64 b), .int .u64 (n64 c), .int .u64 (n64 d)]
  | 1 => #[.int .u64 (n64 a), .int .u64 (n64 (wxor b (gW a))), .int .u64 (n64 (wxor c (fW a))), .int .u64 (n64 d)]
  | _ => #[.int .u64 (n64 a), .int .u64 (n64 (wxor b (gW a))), .int .u64 (n64 (wxor (wxor c (fW a)) (gW (wxor b (gW a))))), .int .u64 (n64 (wxor d (fW (wxor b (gW a)))))]
/-- Four words of 32 bits out of two of 64. -/
def wds2 (c d : BitVec 64) : Array Value := #[.int .u32 (n32 (wext 32 c)), .int .u32 (n32 (wext 32 (wshr c 32))), .int .u32 (n32 (wext 32 d)), .int .u32 (n32 (wext 32 (wshr d 32)))]
theorem wds_app (d c : BitVec 64) : wds (d ++ c) = wds2 c d := by
  have e0 : wd (d ++ c) 0 = wext 32 c := by
    unfold wd wext
    apply BitVec.eq_of_getLsbD_eq
    intro i hi
    simp only [BitVec.getLsbD_extractLsb', BitVec.getLsbD_append, BitVec.getLsbD_setWidth, hi, decide_true, Bool.true_and]
    rw [if_pos (by omega)]
    simp
  have e1 : wd (d ++ c) 1 = wext 32 (wshr c 32) := by
    unfold wd wext wshr
    apply BitVec.eq_of_getLsbD_eq
    intro i hi
    simp only [BitVec.getLsbD_extractLsb', BitVec.getLsbD_append, BitVec.getLsbD_setWidth, BitVec.getLsbD_ushiftRight, hi, decide_true, Bool.true_and]
    rw [if_pos (by omega)]
  have e2 : wd (d ++ c) 2 = wext 32 d := by
    unfold wd wext
    apply BitVec.eq_of_getLsbD_eq
    intro i hi
    simp only [BitVec.getLsbD_extractLsb', BitVec.getLsbD_append, BitVec.getLsbD_setWidth, hi, decide_true, Bool.true_and]
    rw [if_neg (by omega)]
    congr 1
    omega
  have e3 : wd (d ++ c) 3 = wext 32 (wshr d 32) := by
    unfold wd wext wshr
    apply BitVec.eq_of_getLsbD_eq
    intro i hi
    simp only [BitVec.getLsbD_extractLsb', BitVec.getLsbD_append, BitVec.getLsbD_setWidth, BitVec.getLsbD_ushiftRight, hi, decide_true, Bool.true_and]
    rw [if_neg (by omega)]
    congr 1
    omega
  unfold wds wds2
  rw [e0, e1, e2, e3]
theorem step_is {y h : BitVec 128} {l0 l1 l2 m0 m1 m2 p0 p1 p2 r0 r1 r2 r3 r4 r5 v1 v2 v3 v4 zz0 zz1 zz2 zz3 zc zd : BitVec 64}
    (el0 : Gf.clm (wd y 0) (wd h 0) = l0) (em0 : Gf.clm (wd y 1) (wd h 1) = m0) (ep0 : Gf.clm (wxor (wd y 0) (wd y 1)) (wxor (wd h 0) (wd h 1)) = p0)
    (el1 : Gf.clm (wd y 2) (wd h 2) = l1) (em1 : Gf.clm (wd y 3) (wd h 3) = m1) (ep1 : Gf.clm (wxor (wd y 2) (wd y 3)) (wxor (wd h 2) (wd h 3)) = p1)
    (el2 : Gf.clm (wxor (wd y 0) (wd y 2)) (wxor (wd h 0) (wd h 2)) = l2) (em2 : Gf.clm (wxor (wd y 1) (wd y 3)) (wxor (wd h 1) (wd h 3)) = m2)
    (ep2 : Gf.clm (wxor (wxor (wd y 0) (wd y 2)) (wxor (wd y 1) (wd y 3))) (wxor (wxor (wd h 0) (wd h 2)) (wxor (wd h 1) (wd h 3))) = p2)
    (eL0 : loW l0 m0 p0 = r0) (eH0 : hiW l0 m0 p0 = r1) (eL1 : loW l1 m1 p1 = r2) (eH1 : hiW l1 m1 p1 = r3) (eL2 : loW l2 m2 p2 = r4) (eH2 : hiW l2 m2 p2 = r5)
    (ev1 : wxor r4 (wxor r0 r2) = v1) (ev2 : wxor r5 (wxor r1 r3) = v2) (ev3 : wxor r1 v1 = v3) (ev4 : wxor r2 v2 = v4)
    (ez0 : wshl r0 1 = zz0) (ez1 : wor (wshl v3 1) (wshr r0 63) = zz1) (ez2 : wor (wshl v4 1) (wshr v3 63) = zz2) (ez3 : wor (wshl r3 1) (wshr v4 63) = zz3)
    (ec : wxor (wxor zz2 (fW zz0)) (gW (wxor zz1 (gW zz0))) = zc) (ed : wxor zz3 (fW (wxor zz1 (gW zz0))) = zd) :
    #[.int .u32 (n32 (wext 32 zc)), .int .u32 (n32 (wext 32 (wshr zc 32))), .int .u32 (n32 (wext 32 zd)), .int .u32 (n32 (wext 32 (wshr zd 32)))] = wds (gmul y h) := by
  have hg : gmul y h = zd ++ zc := by
    rw [← stepC_gmul]
    subst ed ec ez3 ez2 ez1 ez0 ev4 ev3 ev2 ev1 eH2 eL2 eH1 eL1 eH0 eL0 ep2 em2 el2 ep1 em1 el1 ep0 em0 el0
    rfl
  rw [hg, wds_app]
  rfl
/-- The block that is handed back, as far as the last loop has laid it. -/
def pTo (y : BitVec 128) : Nat → BitVec 128
  | 0 => 0#128
  | j + 1 => putW (pTo y j) (4 * j) (wd y (3 - j))
theorem byte_wd (y : BitVec 128) (i : Nat) (hi : i < 16) : byte y i = wext 8 (wshr (wd y (3 - i / 4)) (24 - 8 * (i % 4))) := by
  unfold byte wext wshr wd
  apply BitVec.eq_of_getLsbD_eq
  intro t ht
  simp only [BitVec.getLsbD_extractLsb', BitVec.getLsbD_setWidth, BitVec.getLsbD_ushiftRight, ht, decide_true, Bool.true_and]
  have h1 : 24 - 8 * (i % 4) + t < 32 := by omega
  simp only [h1, decide_true, Bool.true_and]
  congr 1
  omega
theorem byte_putW (x : BitVec 128) (j : Nat) (y : BitVec 128) (i : Nat) (hi : i < 16) :
    byte (putW x (4 * j) (wd y (3 - j))) i = if i / 4 = j then byte y i else byte x i := by
  unfold putW
  rw [byte_setB _ _ _ _ hi, byte_setB _ _ _ _ hi, byte_setB _ _ _ _ hi, byte_setB _ _ _ _ hi]
  by_cases h : i / 4 = j
  · rw [if_pos h, byte_wd y i hi, h]
    have h4 : i % 4 = 0 ∨ i % 4 = 1 ∨ i % 4 = 2 ∨ i % 4 = 3 := by omega
    rcases h4 with h4 | h4 | h4 | h4
    · rw [if_neg (by omega), if_neg (by omega), if_neg (by omega), if_pos (by omega), h4]
    · rw [if_neg (by omega), if_neg (by omega), if_pos (by omega), h4]
    · rw [if_neg (by omega), if_pos (by omega), h4]
    · rw [if_pos (by omega), h4]
      unfold wshr
      simp
  · rw [if_neg h, if_neg (by omega), if_neg (by omega), if_neg (by omega), if_neg (by omega)]
theorem pTo_all (y : BitVec 128) : pTo y 4 = y := bytes_ext fun i hi => by
  simp only [pTo]
  rw [byte_putW _ 3 y i hi, byte_putW _ 2 y i hi, byte_putW _ 1 y i hi, byte_putW _ 0 y i hi]
  have : i / 4 = 0 ∨ i / 4 = 1 ∨ i / 4 = 2 ∨ i / 4 = 3 := by omega
  rcases this with h | h | h | h <;> simp [h]
theorem Keeps.wide {g b : Nat} {a w w' : World} (h : Keeps g a w) (hg : g < a.heap.size) (h' : Keeps b w w') (hb : a.heap.size ≤ b) : Keeps g a w' := h.below hg hb h'.bel

set_option maxRecDepth 100000 in
set_option maxHeartbeats 4000000 in
theorem ghash_in (n Y H : Nat) (x0 h : BitVec 128) (tY tH : TypeId) (inp : List (List (BitVec 8))) (p : Option Addr) (c : Nat) (w : World)
    (hY : objAt w Y = some (.cells (blk x0) tY (0, 0))) (hH : objAt w H = some (.cells (blk h) tH (0, 0))) (hne : H ≠ Y) (hin : InAt Y w (.slice p inp.length c) inp) :
    CallsIn Fence.wide n Tryd.prog 36 #[.pointer (some ⟨Y, 0, none⟩), .pointer (some ⟨H, 0, none⟩), .slice p inp.length c] w (fun e W' => e = .returned (.tuple #[]) ∧ objAt W' Y = some (.cells (blk (yk (seqOf inp) h (seqOf inp).length)) tY (0, 0)) ∧ Keeps Y w W') := by
  have hYz := oa_lt hY
  have hHz := oa_lt hH
  have hclr := run_clear16 (w.alloc (.cells #[.slice p inp.length c] 30)) Y 16 x0 tY 0 (oa_alloc hY _)
  have hH1 := oa_row (oa_alloc hH (.cells #[.slice p inp.length c] 30)) hne (blk 0#128)
  refine callsIn_of_wp_marks Tryd.func36 rfl trivial ?_ rfl
  simp only [Tryd.ntmps36, List.size_toArray, List.length_cons, List.length_nil, Nat.reduceAdd, Nat.reduceSub, Array.replicate_succ, Array.replicate_zero, List.push_toArray, List.append_toArray, List.nil_append, List.cons_append]
  gi_wp2
  gi_loopw [25] (fun i wr => ∃ k m : Nat, k ≤ 4 ∧ i = .int .i64 k ∧ wr = ((((w.setRow Y (blk 0#128)).alloc (.cells #[.slice p inp.length c] 30)).alloc (.cells #[.int .u32 0, .int .u32 0, .int .u32 0, .int .u32 0] 86)).alloc (.cells (hTo h k) 86)).drewN m) (fun i _ => 4 - lenOf' i)
  case atStart => exact ⟨0, 0, by omega, rfl, rfl⟩
  case round =>
    obtain ⟨k, m, hk, rfl, rfl⟩ := hrel
    have hb := fun (k m : Nat) => oa_drewN (oa_alloc (oa_alloc (oa_alloc (oa_row hH hne (blk 0#128)) (.cells #[.slice p inp.length c] 30)) (.cells #[.int .u32 0, .int .u32 0, .int .u32 0, .int .u32 0] 86)) (.cells (hTo h k) 86)) m
    match k, hk with
    | 0, _ =>
      have hb0 := hb 0 m
      simp only [hTo] at hb0 ⊢
      gi_wp2_with (refine ⟨trivial, fun hh => by simp [Fence.wide] at hh, ?_⟩; gi_at_call 42; refine (callsIn_wide.2 (be_blk H 0 4 16 h tH (0, 0) _ (by decide) (by decide) (by decide) hb0)).mono ?_; rintro e w1 ⟨rfl, m1, rfl⟩)
      go_roundw
      case rel => exact ⟨1, _, by omega, by go_num, rfl⟩
      case measure => simp [lenOf']
    | 1, _ =>
      have hb0 := hb 1 m
      simp only [hTo] at hb0 ⊢
      gi_wp2_with (refine ⟨trivial, fun hh => by simp [Fence.wide] at hh, ?_⟩; gi_at_call 42; refine (callsIn_wide.2 (be_blk H 1 4 12 h tH (0, 0) _ (by decide) (by decide) (by decide) hb0)).mono ?_; rintro e w1 ⟨rfl, m1, rfl⟩)
      go_roundw
      case rel => exact ⟨2, _, by omega, by go_num, rfl⟩
      case measure => simp [lenOf']
    | 2, _ =>
      have hb0 := hb 2 m
      simp only [hTo] at hb0 ⊢
      gi_wp2_with (refine ⟨trivial, fun hh => by simp [Fence.wide] at hh, ?_⟩; gi_at_call 42; refine (callsIn_wide.2 (be_blk H 2 4 8 h tH (0, 0) _ (by decide) (by decide) (by decide) hb0)).mono ?_; rintro e w1 ⟨rfl, m1, rfl⟩)
      go_roundw
      case rel => exact ⟨3, _, by omega, by go_num, rfl⟩
      case measure => simp [lenOf']
    | 3, _ =>
      have hb0 := hb 3 m
      simp only [hTo] at hb0 ⊢
      gi_wp2_with (refine ⟨trivial, fun hh => by simp [Fence.wide] at hh, ?_⟩; gi_at_call 42; refine (callsIn_wide.2 (be_blk H 3 4 4 h tH (0, 0) _ (by decide) (by decide) (by decide) hb0)).mono ?_; rintro e w1 ⟨rfl, m1, rfl⟩)
      go_roundw
      case rel => exact ⟨4, _, by omega, by go_num, rfl⟩
      case measure => simp [lenOf']
    | 4, _ =>
      simp only [hTo]
      gi_wp2
      generalize hw0 : ((((w.setRow Y (blk 0#128)).alloc (.cells #[.slice p inp.length c] 30)).alloc (.cells #[.int .u32 0, .int .u32 0, .int .u32 0, .int .u32 0] 86)).alloc (.cells (wds h) 86)).drewN m = w0
      have hz0 : w0.heap.size = w.heap.size + 3 := by rw [← hw0]; simp
      refine' rf_law (n := n) rfl (enters_of Tryd.func43 (by kernel_rfl) rfl) rfl
        (fun k W => objAt W (w.heap.size + 1) = some (.cells (wds (yk (seqOf inp) h k)) 86 (0, 0)) ∧ objAt W (w.heap.size + 2) = some (.cells (wds h) 86 (0, 0)) ∧ Keeps (w.heap.size + 1) w0 W)
        (FitsB (w.heap.size + 1) (seqOf inp)) (seqOf inp).length (w.heap.size + 1) (by omega) ?hI FitsB.put ?h0 _ ?assign ?body ?iter ?done
      case hI =>
        intro k A B hI hb
        exact ⟨oa_below hI.1 hb (by omega), oa_below hI.2.1 hb (by omega), hI.2.2.below (by omega) (Nat.le_refl _) hb⟩
      case h0 =>
        refine ⟨?_, ?_, Keeps.refl _ _⟩
        · rw [← hw0, show yk (seqOf inp) h 0 = 0#128 from rfl, wds_zero]; simp [go_sem]
        · rw [← hw0]; simp [go_sem]
      case assign =>
        intro l v W K hK
        gi_wp2
        exact hK
      case iter =>
        intro l J W1 hb hsz hst hy hJ0
        have hbox : objAt W1 w.heap.size = some (.cells #[.slice p inp.length c] 30 (0, 0)) := by
          refine oa_below ?_ hb (by omega)
          rw [← hw0]; simp [go_sem]
        have hold : ∀ b, b < w.heap.size → b ≠ Y → W1.heap[b]? = w.heap[b]? := fun b hb1 hbY => by
          refine (hb.block b (by omega)).trans ?_
          rw [← hw0]
          show objAt _ b = objAt w b
          rw [objAt_drewN, objAt_alloc_past _ _ _ (by simp; omega), objAt_alloc_past _ _ _ (by simp; omega), objAt_alloc_past _ _ _ (by simp; omega), objAt_setRow _ _ _ _ hbY]
        exact iter_in (n - 1) l w.heap.size (w.heap.size + 1) inp J W1 _ hst hy ((objAt_cell hbox 0).trans rfl) (hin.move (by omega) (by omega) hold) hJ0 (by omega)
      case done =>
        intro W hI hD
        have kw0 : Keeps Y w w0 := by
          rw [← hw0]
          exact (((((Keeps.refl Y w).row (blk 0#128)).alloc hYz _).alloc hYz _).alloc hYz _).drewN m
        have hY0 : objAt w0 Y = some (.cells (blk 0#128) tY (0, 0)) := by
          rw [← hw0]
          exact oa_drewN (oa_alloc (oa_alloc (oa_alloc (objAt_setRow_same hY (blk 0#128)) _) _) _) m
        have kW : Keeps Y w W := kw0.wide hYz hI.2.2 (by omega)
        have hYW : objAt W Y = some (.cells (blk 0#128) tY (0, 0)) := hI.2.2.at_ hY0 (by omega)
        have hyW := hI.1
        clear hclr hH1 hb hY hH hin hI hw0 hY0 kw0
        generalize eyy : yk (seqOf inp) h (seqOf inp).length = y at hyW
        have hD' : objAt W w0.heap.size = some (.deferred (some [])) := hD
        clear hD
        gi_wp2
        gi_loopw [325] (fun i wr => ∃ j : Nat, j ≤ 4 ∧ i = .int .i64 j ∧ objAt wr Y = some (.cells (blk (pTo y j)) tY (0, 0)) ∧ Keeps Y W wr) (fun i _ => 4 - lenOf' i)
        case atStart => exact ⟨0, by omega, rfl, hYW, Keeps.refl _ _⟩
        case round =>
          obtain ⟨j, hj, rfl, hp, hK⟩ := hrel
          have hyr : objAt wr (w.heap.size + 1) = some (.cells (wds y) 86 (0, 0)) := hK.at_ hyW (by omega)
          match j, hj with
          | 0, _ =>
            have c0 : wr.cell? ⟨w.heap.size + 1, 3, none⟩ = some (.int .u32 (n32 (wd y 3))) := (objAt_cell hyr 3).trans rfl
            gi_wp2
            refine wpWide_region_chain (l := [_, _, _, _, _, _, _, _, _, _, _, _, _]) (fun w' => w'.cell? ⟨w.heap.size + 1, 3, none⟩ = some (.int .u32 (n32 (wd y 3)))) (fun w' => ∃ m, w' = wr.drewN m) (by kernel_rfl) (by kernel_rfl) ⟨1, rfl⟩ (by rintro w2 ⟨m2, rfl⟩; exact c0) ?_
            iterate 12 (refine chain_val (v := ?_) (by rfl) ?_ ?_; rotate_left; (focus (rintro w2 b2; go_simp; (try with_reducible rfl); done)); simp only [Act.put, List.setIfInBounds_toArray, List.set_cons_zero, List.set_cons_succ])
            refine chain_call (fun w' => objAt w' Y = some (.cells (blk (pTo y 1)) tY (0, 0)) ∧ Keeps Y wr w') (v := .tuple #[]) (f := 45) (args := #[.slice (some ⟨Y, 0, none⟩) 4 16, .int .u32 (n32 (wd y 3))]) rfl (by rfl) (fun w' hw' => (hw'.2.cell (oa_lt hyr) (by omega) _).trans c0) ?_ ?_ ?_
            · rintro w2 ⟨m2, rfl⟩; go_simp
            · rintro w2 ⟨m2, rfl⟩
              refine (put_any Y 0 4 16 (pTo y 0) (wd y 3) tY (wr.drewN m2) (by decide) (by decide) (by decide) (oa_drewN hp m2)).mono ?_
              rintro e w3 ⟨he, hb3, hk3⟩
              exact ⟨he, hb3, ((Keeps.refl Y wr).drewN m2).trans hk3⟩
            simp only [Act.put, List.setIfInBounds_toArray, List.set_cons_zero, List.set_cons_succ]
            refine chain_nil ?_
            rintro w2 ⟨hp2, hk2⟩
            gi_wp2
            go_roundw
            case rel => exact ⟨1, by omega, by go_num, hp2, hK.trans hk2⟩
            case measure => simp [lenOf']
          | 1, _ =>
            have c0 : wr.cell? ⟨w.heap.size + 1, 2, none⟩ = some (.int .u32 (n32 (wd y 2))) := (objAt_cell hyr 2).trans rfl
            gi_wp2
            refine wpWide_region_chain (l := [_, _, _, _, _, _, _, _, _, _, _, _, _]) (fun w' => w'.cell? ⟨w.heap.size + 1, 2, none⟩ = some (.int .u32 (n32 (wd y 2)))) (fun w' => ∃ m, w' = wr.drewN m) (by kernel_rfl) (by kernel_rfl) ⟨1, rfl⟩ (by rintro w2 ⟨m2, rfl⟩; exact c0) ?_
            iterate 12 (refine chain_val (v := ?_) (by rfl) ?_ ?_; rotate_left; (focus (rintro w2 b2; go_simp; (try with_reducible rfl); done)); simp only [Act.put, List.setIfInBounds_toArray, List.set_cons_zero, List.set_cons_succ])
            refine chain_call (fun w' => objAt w' Y = some (.cells (blk (pTo y 2)) tY (0, 0)) ∧ Keeps Y wr w') (v := .tuple #[]) (f := 45) (args := #[.slice (some ⟨Y, 4, none⟩) 4 12, .int .u32 (n32 (wd y 2))]) rfl (by rfl) (fun w' hw' => (hw'.2.cell (oa_lt hyr) (by omega) _).trans c0) ?_ ?_ ?_
            · rintro w2 ⟨m2, rfl⟩; go_simp
            · rintro w2 ⟨m2, rfl⟩
              refine (put_any Y 4 4 12 (pTo y 1) (wd y 2) tY (wr.drewN m2) (by decide) (by decide) (by decide) (oa_drewN hp m2)).mono ?_
              rintro e w3 ⟨he, hb3, hk3⟩
              exact ⟨he, hb3, ((Keeps.refl Y wr).drewN m2).trans hk3⟩
            simp only [Act.put, List.setIfInBounds_toArray, List.set_cons_zero, List.set_cons_succ]
            refine chain_nil ?_
            rintro w2 ⟨hp2, hk2⟩
            gi_wp2
            go_roundw
            case rel => exact ⟨2, by omega, by go_num, hp2, hK.trans hk2⟩
            case measure => simp [lenOf']
          | 2, _ =>
            have c0 : wr.cell? ⟨w.heap.size + 1, 1, none⟩ = some (.int .u32 (n32 (wd y 1))) := (objAt_cell hyr 1).trans rfl
            gi_wp2
            refine wpWide_region_chain (l := [_, _, _, _, _, _, _, _, _, _, _, _, _]) (fun w' => w'.cell? ⟨w.heap.size + 1, 1, none⟩ = some (.int .u32 (n32 (wd y 1)))) (fun w' => ∃ m, w' = wr.drewN m) (by kernel_rfl) (by kernel_rfl) ⟨1, rfl⟩ (by rintro w2 ⟨m2, rfl⟩; exact c0) ?_
            iterate 12 (refine chain_val (v := ?_) (by rfl) ?_ ?_; rotate_left; (focus (rintro w2 b2; go_simp; (try with_reducible rfl); done)); simp only [Act.put, List.setIfInBounds_toArray, List.set_cons_zero, List.set_cons_succ])
            refine chain_call (fun w' => objAt w' Y = some (.cells (blk (pTo y 3)) tY (0, 0)) ∧ Keeps Y wr w') (v := .tuple #[]) (f := 45) (args := #[.slice (some ⟨Y, 8, none⟩) 4 8, .int .u32 (n32 (wd y 1))]) rfl (by rfl) (fun w' hw' => (hw'.2.cell (oa_lt hyr) (by omega) _).trans c0) ?_ ?_ ?_
            · rintro w2 ⟨m2, rfl⟩; go_simp
            · rintro w2 ⟨m2, rfl⟩
              refine (put_any Y 8 4 8 (pTo y 2) (wd y 1) tY (wr.drewN m2) (by decide) (by decide) (by decide) (oa_drewN hp m2)).mono ?_
              rintro e w3 ⟨he, hb3, hk3⟩
              exact ⟨he, hb3, ((Keeps.refl Y wr).drewN m2).trans hk3⟩
            simp only [Act.put, List.setIfInBounds_toArray, List.set_cons_zero, List.set_cons_succ]
            refine chain_nil ?_
            rintro w2 ⟨hp2, hk2⟩
            gi_wp2
            go_roundw
            case rel => exact ⟨3, by omega, by go_num, hp2, hK.trans hk2⟩
            case measure => simp [lenOf']
          | 3, _ =>
            have c0 : wr.cell? ⟨w.heap.size + 1, 0, none⟩ = some (.int .u32 (n32 (wd y 0))) := (objAt_cell hyr 0).trans rfl
            gi_wp2
            refine wpWide_region_chain (l := [_, _, _, _, _, _, _, _, _, _, _, _, _]) (fun w' => w'.cell? ⟨w.heap.size + 1, 0, none⟩ = some (.int .u32 (n32 (wd y 0)))) (fun w' => ∃ m, w' = wr.drewN m) (by kernel_rfl) (by kernel_rfl) ⟨1, rfl⟩ (by rintro w2 ⟨m2, rfl⟩; exact c0) ?_
            iterate 12 (refine chain_val (v := ?_) (by rfl) ?_ ?_; rotate_left; (focus (rintro w2 b2; go_simp; (try with_reducible rfl); done)); simp only [Act.put, List.setIfInBounds_toArray, List.set_cons_zero, List.set_cons_succ])
            refine chain_call (fun w' => objAt w' Y = some (.cells (blk (pTo y 4)) tY (0, 0)) ∧ Keeps Y wr w') (v := .tuple #[]) (f := 45) (args := #[.slice (some ⟨Y, 12, none⟩) 4 4, .int .u32 (n32 (wd y 0))]) rfl (by rfl) (fun w' hw' => (hw'.2.cell (oa_lt hyr) (by omega) _).trans c0) ?_ ?_ ?_
            · rintro w2 ⟨m2, rfl⟩; go_simp
            · rintro w2 ⟨m2, rfl⟩
              refine (put_any Y 12 4 4 (pTo y 3) (wd y 0) tY (wr.drewN m2) (by decide) (by decide) (by decide) (oa_drewN hp m2)).mono ?_
              rintro e w3 ⟨he, hb3, hk3⟩
              exact ⟨he, hb3, ((Keeps.refl Y wr).drewN m2).trans hk3⟩
            simp only [Act.put, List.setIfInBounds_toArray, List.set_cons_zero, List.set_cons_succ]
            refine chain_nil ?_
            rintro w2 ⟨hp2, hk2⟩
            gi_wp2
            go_roundw
            case rel => exact ⟨4, by omega, by go_num, hp2, hK.trans hk2⟩
            case measure => simp [lenOf']
          | 4, _ =>
            gi_wp2
            have hDr : wr.heap[w0.heap.size]? = some (.deferred (some [])) := hK.at_ hD' (by omega)
            refine ⟨by simp, .inl ⟨_, _, rfl, run_takeDeferred hDr, ?_⟩⟩
            refine ⟨_, results_none rfl _ _ _, rfl, (World.putObj_heap_other (by omega)).trans ?_, (kW.trans hK).below hYz (Nat.le_refl _) (below_putObj _ (by omega) _)⟩
            rw [pTo_all] at hp
            rw [eyy]
            exact hp
      case body =>
        intro l k v W hI hk hfit hlt
        obtain ⟨b, o, cc, x, rfl, hc1', hc2', hbY, hx, hcell⟩ := hfit
        gi_wp2
        gi_loopw [44] (fun i wr => ∃ j : Nat, j ≤ 4 ∧ i = .int .i64 j ∧ objAt wr (w.heap.size + 1) = some (.cells (yTo (yk (seqOf inp) h k) x j) 86 (0, 0)) ∧ Keeps (w.heap.size + 1) W wr) (fun i _ => 4 - lenOf' i)
        case atStart => exact ⟨0, by omega, rfl, hI.1, Keeps.refl _ _⟩
        case round =>
          obtain ⟨j, hj, rfl, hy, hK⟩ := hrel
          have hcell' : ∀ i, i < 16 → wr.cell? ⟨b, o + i, none⟩ = some (.int .u8 (n8 (byte x i))) := fun i hi => by
            have hc0 := hcell i hi
            obtain ⟨ob, hob, _⟩ := cells_of_cell hc0
            exact (hK.cell (Array.getElem?_eq_some_iff.1 hob).1 hbY _).trans hc0
          match j, hj with
          | 0, _ =>
            simp only [yTo] at hy
            have c3 : wr.cell? ⟨w.heap.size + 1, 3, none⟩ = some (.int .u32 (n32 (wd (yk (seqOf inp) h k) 3))) := (objAt_cell hy 3).trans rfl
            have f3 := objAt_free hy 3
            have i4 : (4 : Int) ≤ (cc : Int) := by omega
            have hbe : ∀ w2 : World, (∃ m, w2 = wr.drewN m) → Calls Tryd.prog 42 #[.slice (some ⟨b, o, none⟩) 4 cc] w2 (fun e w' => e = .returned (.int .u32 (n32 (wd x 3))) ∧ ∃ m, w' = wr.drewN m) := by
              rintro w2 ⟨m2, rfl⟩
              have h := be_any b o 4 cc _ _ _ _ (wr.drewN m2) (by decide) (by decide) (hcell' 0 (by decide)) (hcell' 1 (by decide)) (hcell' 2 (by decide)) (hcell' 3 (by decide))
              rw [show be32 (byte x 0) (byte x 1) (byte x 2) (byte x 3) = wd x 3 from wd_be x 0 (by decide)] at h
              refine h.mono ?_
              rintro e w3 ⟨he, m3, rfl⟩
              exact ⟨he, m2 + m3, (drewN_add wr m2 m3).symm⟩
            gi_wp2
            refine wpRound_region_tail (l := [_, _, _, _, _, _, _, _, _, _, _, _, _, _]) (last := _) (fun w' => ∃ m, w' = wr.drewN m) (fun w' => ∃ m, w' = wr.drewN m) (by kernel_rfl) (by kernel_rfl) ⟨1, rfl⟩ (fun _ h => h) ?_
            iterate 11 (refine chain_val (v := ?_) (by rfl) ?_ ?_; rotate_left; (focus (rintro w2 ⟨m2, rfl⟩; go_simp; (try with_reducible rfl); done)); simp only [Act.put, List.setIfInBounds_toArray, List.set_cons_zero, List.set_cons_succ])
            refine chain_call (fun w' => ∃ m, w' = wr.drewN m) rfl (by rfl) (fun _ h => h) ?_ hbe ?_
            · rintro w2 ⟨m2, rfl⟩; go_simp
            simp only [Act.put, List.setIfInBounds_toArray, List.set_cons_zero, List.set_cons_succ]
            iterate 2 (refine chain_val (v := ?_) (by rfl) ?_ ?_; rotate_left; (focus (rintro w2 ⟨m2, rfl⟩; go_simp; (try with_reducible rfl); done)); simp only [Act.put, List.setIfInBounds_toArray, List.set_cons_zero, List.set_cons_succ])
            refine chain_nil ?_
            rintro w2 ⟨m2, rfl⟩
            simp only [wpOpIn, List.length_cons, List.length_nil, Nat.zero_add, Nat.reduceAdd]
            go_simp
            gi_wp2
            go_roundw
            case rel => exact ⟨1, by omega, by go_num, (objAt_set (oa_drewN hy m2) 3 _).trans rfl, (Keeps.drewN hK m2).set 3 _⟩
            case measure => simp [lenOf']
          | 1, _ =>
            simp only [yTo] at hy
            have c3 : wr.cell? ⟨w.heap.size + 1, 2, none⟩ = some (.int .u32 (n32 (wd (yk (seqOf inp) h k) 2))) := (objAt_cell hy 2).trans rfl
            have f3 := objAt_free hy 2
            have i4 : (8 : Int) ≤ (cc : Int) := by omega
            have i5 : ¬ cc = 4 := by omega
            have hbe : ∀ w2 : World, (∃ m, w2 = wr.drewN m) → Calls Tryd.prog 42 #[.slice (some ⟨b, o + 4, none⟩) 4 (cc - 4)] w2 (fun e w' => e = .returned (.int .u32 (n32 (wd x 2))) ∧ ∃ m, w' = wr.drewN m) := by
              rintro w2 ⟨m2, rfl⟩
              have h := be_any b (o + 4) 4 (cc - 4) _ _ _ _ (wr.drewN m2) (by decide) (by decide) (hcell' 4 (by decide)) (hcell' 5 (by decide)) (hcell' 6 (by decide)) (hcell' 7 (by decide))
              rw [show be32 (byte x 4) (byte x 5) (byte x 6) (byte x 7) = wd x 2 from wd_be x 1 (by decide)] at h
              refine h.mono ?_
              rintro e w3 ⟨he, m3, rfl⟩
              exact ⟨he, m2 + m3, (drewN_add wr m2 m3).symm⟩
            gi_wp2
            refine wpRound_region_tail (l := [_, _, _, _, _, _, _, _, _, _, _, _, _, _]) (last := _) (fun w' => ∃ m, w' = wr.drewN m) (fun w' => ∃ m, w' = wr.drewN m) (by kernel_rfl) (by kernel_rfl) ⟨1, rfl⟩ (fun _ h => h) ?_
            iterate 11 (refine chain_val (v := ?_) (by rfl) ?_ ?_; rotate_left; (focus (rintro w2 ⟨m2, rfl⟩; go_simp; (try with_reducible rfl); done)); simp only [Act.put, List.setIfInBounds_toArray, List.set_cons_zero, List.set_cons_succ])
            refine chain_call (fun w' => ∃ m, w' = wr.drewN m) rfl (by rfl) (fun _ h => h) ?_ hbe ?_
            · rintro w2 ⟨m2, rfl⟩; go_simp
            simp only [Act.put, List.setIfInBounds_toArray, List.set_cons_zero, List.set_cons_succ]
            iterate 2 (refine chain_val (v := ?_) (by rfl) ?_ ?_; rotate_left; (focus (rintro w2 ⟨m2, rfl⟩; go_simp; (try with_reducible rfl); done)); simp only [Act.put, List.setIfInBounds_toArray, List.set_cons_zero, List.set_cons_succ])
            refine chain_nil ?_
            rintro w2 ⟨m2, rfl⟩
            simp only [wpOpIn, List.length_cons, List.length_nil, Nat.zero_add, Nat.reduceAdd]
            go_simp
            gi_wp2
            go_roundw
            case rel => exact ⟨2, by omega, by go_num, (objAt_set (oa_drewN hy m2) 2 _).trans (rfl), (Keeps.drewN hK m2).set 2 _⟩
            case measure => simp [lenOf']
          | 2, _ =>
            simp only [yTo] at hy
            have c3 : wr.cell? ⟨w.heap.size + 1, 1, none⟩ = some (.int .u32 (n32 (wd (yk (seqOf inp) h k) 1))) := (objAt_cell hy 1).trans rfl
            have f3 := objAt_free hy 1
            have i4 : (12 : Int) ≤ (cc : Int) := by omega
            have i5 : ¬ cc = 8 := by omega
            have hbe : ∀ w2 : World, (∃ m, w2 = wr.drewN m) → Calls Tryd.prog 42 #[.slice (some ⟨b, o + 8, none⟩) 4 (cc - 8)] w2 (fun e w' => e = .returned (.int .u32 (n32 (wd x 1))) ∧ ∃ m, w' = wr.drewN m) := by
              rintro w2 ⟨m2, rfl⟩
              have h := be_any b (o + 8) 4 (cc - 8) _ _ _ _ (wr.drewN m2) (by decide) (by decide) (hcell' 8 (by decide)) (hcell' 9 (by decide)) (hcell' 10 (by decide)) (hcell' 11 (by decide))
              rw [show be32 (byte x 8) (byte x 9) (byte x 10) (byte x 11) = wd x 1 from wd_be x 2 (by decide)] at h
              refine h.mono ?_
              rintro e w3 ⟨he, m3, rfl⟩
              exact ⟨he, m2 + m3, (drewN_add wr m2 m3).symm⟩
            gi_wp2
            refine wpRound_region_tail (l := [_, _, _, _, _, _, _, _, _, _, _, _, _, _]) (last := _) (fun w' => ∃ m, w' = wr.drewN m) (fun w' => ∃ m, w' = wr.drewN m) (by kernel_rfl) (by kernel_rfl) ⟨1, rfl⟩ (fun _ h => h) ?_
            iterate 11 (refine chain_val (v := ?_) (by rfl) ?_ ?_; rotate_left; (focus (rintro w2 ⟨m2, rfl⟩; go_simp; (try with_reducible rfl); done)); simp only [Act.put, List.setIfInBounds_toArray, List.set_cons_zero, List.set_cons_succ])
            refine chain_call (fun w' => ∃ m, w' = wr.drewN m) rfl (by rfl) (fun _ h => h) ?_ hbe ?_
            · rintro w2 ⟨m2, rfl⟩; go_simp
            simp only [Act.put, List.setIfInBounds_toArray, List.set_cons_zero, List.set_cons_succ]
            iterate 2 (refine chain_val (v := ?_) (by rfl) ?_ ?_; rotate_left; (focus (rintro w2 ⟨m2, rfl⟩; go_simp; (try with_reducible rfl); done)); simp only [Act.put, List.setIfInBounds_toArray, List.set_cons_zero, List.set_cons_succ])
            refine chain_nil ?_
            rintro w2 ⟨m2, rfl⟩
            simp only [wpOpIn, List.length_cons, List.length_nil, Nat.zero_add, Nat.reduceAdd]
            go_simp
            gi_wp2
            go_roundw
            case rel => exact ⟨3, by omega, by go_num, (objAt_set (oa_drewN hy m2) 1 _).trans (rfl), (Keeps.drewN hK m2).set 1 _⟩
            case measure => simp [lenOf']
          | 3, _ =>
            simp only [yTo] at hy
            have c3 : wr.cell? ⟨w.heap.size + 1, 0, none⟩ = some (.int .u32 (n32 (wd (yk (seqOf inp) h k) 0))) := (objAt_cell hy 0).trans rfl
            have f3 := objAt_free hy 0
            have i4 : (16 : Int) ≤ (cc : Int) := by omega
            have i5 : ¬ cc = 12 := by omega
            have hbe : ∀ w2 : World, (∃ m, w2 = wr.drewN m) → Calls Tryd.prog 42 #[.slice (some ⟨b, o + 12, none⟩) 4 (cc - 12)] w2 (fun e w' => e = .returned (.int .u32 (n32 (wd x 0))) ∧ ∃ m, w' = wr.drewN m) := by
              rintro w2 ⟨m2, rfl⟩
              have h := be_any b (o + 12) 4 (cc - 12) _ _ _ _ (wr.drewN m2) (by decide) (by decide) (hcell' 12 (by decide)) (hcell' 13 (by decide)) (hcell' 14 (by decide)) (hcell' 15 (by decide))
              rw [show be32 (byte x 12) (byte x 13) (byte x 14) (byte x 15) = wd x 0 from wd_be x 3 (by decide)] at h
              refine h.mono ?_
              rintro e w3 ⟨he, m3, rfl⟩
              exact ⟨he, m2 + m3, (drewN_add wr m2 m3).symm⟩
            gi_wp2
            refine wpRound_region_tail (l := [_, _, _, _, _, _, _, _, _, _, _, _, _, _]) (last := _) (fun w' => ∃ m, w' = wr.drewN m) (fun w' => ∃ m, w' = wr.drewN m) (by kernel_rfl) (by kernel_rfl) ⟨1, rfl⟩ (fun _ h => h) ?_
            iterate 11 (refine chain_val (v := ?_) (by rfl) ?_ ?_; rotate_left; (focus (rintro w2 ⟨m2, rfl⟩; go_simp; (try with_reducible rfl); done)); simp only [Act.put, List.setIfInBounds_toArray, List.set_cons_zero, List.set_cons_succ])
            refine chain_call (fun w' => ∃ m, w' = wr.drewN m) rfl (by rfl) (fun _ h => h) ?_ hbe ?_
            · rintro w2 ⟨m2, rfl⟩; go_simp
            simp only [Act.put, List.setIfInBounds_toArray, List.set_cons_zero, List.set_cons_succ]
            iterate 2 (refine chain_val (v := ?_) (by rfl) ?_ ?_; rotate_left; (focus (rintro w2 ⟨m2, rfl⟩; go_simp; (try with_reducible rfl); done)); simp only [Act.put, List.setIfInBounds_toArray, List.set_cons_zero, List.set_cons_succ])
            refine chain_nil ?_
            rintro w2 ⟨m2, rfl⟩
            simp only [wpOpIn, List.length_cons, List.length_nil, Nat.zero_add, Nat.reduceAdd]
            go_simp
            gi_wp2
            go_roundw
            case rel => exact ⟨4, by omega, by go_num, (objAt_set (oa_drewN hy m2) 0 _).trans (by simp [yTo, wds, wd_xor, wxor]), (Keeps.drewN hK m2).set 0 _⟩
            case measure => simp [lenOf']
          | 4, _ =>
            obtain ⟨wo, rfl⟩ : ∃ wo : World, wo = wr := ⟨_, rfl⟩
            simp only [yTo] at hy
            generalize eyx : yk (seqOf inp) h k ^^^ x = yx at hy
            have hI3 := hI.2.2
            have hh4 : objAt wo (w.heap.size + 1 + 1) = some (.cells (wds h) 86 (0, 0)) := hK.at_ hI.2.1 (by omega)
            have s0 : GSt W (w.heap.size + 1) wo.heap.size yx h z3 z3 z3 (((wo.alloc (.cells z3 89)).alloc (.cells z3 89)).alloc (.cells z3 89)) :=
              ⟨oa_lt hI.1, hK.size, oa_lt hh4, by simp, ((hK.alloc (oa_lt hI.1) _).alloc (oa_lt hI.1) _).alloc (oa_lt hI.1) _, oa_alloc (oa_alloc (oa_alloc hy _) _) _, oa_alloc (oa_alloc (oa_alloc hh4 _) _) _, oa_alloc (oa_alloc (objAt_alloc_at _ _ _ rfl) _) _, oa_alloc (objAt_alloc_at _ _ _ (by simp)) _, objAt_alloc_at _ _ _ (by simp)⟩
            obtain ⟨⟨c0, c1, c2, c3⟩, ⟨d0, d1, d2, d3⟩⟩ := s0.cells
            simp only [z3] at c0 c1 c2 c3 d0 d1 d2 d3
            gi_wp2
            refine ⟨trivial, fun hh => (by simp [Fence.wide] at hh), ?_⟩
            gi_at_call 44
            refine (CallsIn.inRound l (callsIn_wide.2 (mul_any _ _ _))).mono ?_
            rintro e w1 ⟨rfl, hb1⟩
            have t1 := s0.below hb1
            clear c0 c1 c2 c3 d0 d1 d2 d3
            obtain ⟨⟨c0, c1, c2, c3⟩, ⟨d0, d1, d2, d3⟩⟩ := t1.cells
            have q1 := objAt_cell t1.cl 0
            have f1 := objAt_free t1.cl 0
            rw [show (_ : Array Value)[0]? = some (.int .u64 0) from rfl] at q1
            have s1 := t1.setL 0 (.int .u64 (n64 (Gf.clm (wd yx 0) (wd h 0))))
            obtain ⟨⟨c0', c1', c2', c3'⟩, ⟨d0', d1', d2', d3'⟩⟩ := s1.cells
            gi_wp2
            refine ⟨trivial, fun hh => (by simp [Fence.wide] at hh), ?_⟩
            gi_at_call 44
            refine (CallsIn.inRound l (callsIn_wide.2 (mul_any _ _ _))).mono ?_
            rintro e w2 ⟨rfl, hb2⟩
            have t2 := s1.below hb2
            clear c0 c1 c2 c3 d0 d1 d2 d3 c0' c1' c2' c3' d0' d1' d2' d3' q1 f1
            obtain ⟨⟨c0, c1, c2, c3⟩, ⟨d0, d1, d2, d3⟩⟩ := t2.cells
            have q2 := objAt_cell t2.cm 0
            have f2 := objAt_free t2.cm 0
            rw [show (_ : Array Value)[0]? = some (.int .u64 0) from rfl] at q2
            have s2 := t2.setM 0 (.int .u64 (n64 (Gf.clm (wd yx 1) (wd h 1))))
            obtain ⟨⟨c0', c1', c2', c3'⟩, ⟨d0', d1', d2', d3'⟩⟩ := s2.cells
            gi_wp2
            refine ⟨trivial, fun hh => (by simp [Fence.wide] at hh), ?_⟩
            gi_at_call 44
            refine (CallsIn.inRound l (callsIn_wide.2 (mul_any _ _ _))).mono ?_
            rintro e w3 ⟨rfl, hb3⟩
            have t3 := s2.below hb3
            clear c0 c1 c2 c3 d0 d1 d2 d3 c0' c1' c2' c3' d0' d1' d2' d3' q2 f2
            obtain ⟨⟨c0, c1, c2, c3⟩, ⟨d0, d1, d2, d3⟩⟩ := t3.cells
            have q3 := objAt_cell t3.cs 0
            have f3 := objAt_free t3.cs 0
            rw [show (_ : Array Value)[0]? = some (.int .u64 0) from rfl] at q3
            have s3 := t3.setS 0 (.int .u64 (n64 (Gf.clm (wxor (wd yx 0) (wd yx 1)) (wxor (wd h 0) (wd h 1)))))
            obtain ⟨⟨c0', c1', c2', c3'⟩, ⟨d0', d1', d2', d3'⟩⟩ := s3.cells
            gi_wp2
            refine ⟨trivial, fun hh => (by simp [Fence.wide] at hh), ?_⟩
            gi_at_call 44
            refine (CallsIn.inRound l (callsIn_wide.2 (mul_any _ _ _))).mono ?_
            rintro e w4 ⟨rfl, hb4⟩
            have t4 := s3.below hb4
            clear c0 c1 c2 c3 d0 d1 d2 d3 c0' c1' c2' c3' d0' d1' d2' d3' q3 f3
            obtain ⟨⟨c0, c1, c2, c3⟩, ⟨d0, d1, d2, d3⟩⟩ := t4.cells
            have q4 := objAt_cell t4.cl 1
            have f4 := objAt_free t4.cl 1
            rw [show (_ : Array Value)[1]? = some (.int .u64 0) from rfl] at q4
            have s4 := t4.setL 1 (.int .u64 (n64 (Gf.clm (wd yx 2) (wd h 2))))
            obtain ⟨⟨c0', c1', c2', c3'⟩, ⟨d0', d1', d2', d3'⟩⟩ := s4.cells
            gi_wp2
            refine ⟨trivial, fun hh => (by simp [Fence.wide] at hh), ?_⟩
            gi_at_call 44
            refine (CallsIn.inRound l (callsIn_wide.2 (mul_any _ _ _))).mono ?_
            rintro e w5 ⟨rfl, hb5⟩
            have t5 := s4.below hb5
            clear c0 c1 c2 c3 d0 d1 d2 d3 c0' c1' c2' c3' d0' d1' d2' d3' q4 f4
            obtain ⟨⟨c0, c1, c2, c3⟩, ⟨d0, d1, d2, d3⟩⟩ := t5.cells
            have q5 := objAt_cell t5.cm 1
            have f5 := objAt_free t5.cm 1
            rw [show (_ : Array Value)[1]? = some (.int .u64 0) from rfl] at q5
            have s5 := t5.setM 1 (.int .u64 (n64 (Gf.clm (wd yx 3) (wd h 3))))
            obtain ⟨⟨c0', c1', c2', c3'⟩, ⟨d0', d1', d2', d3'⟩⟩ := s5.cells
            gi_wp2
            refine ⟨trivial, fun hh => (by simp [Fence.wide] at hh), ?_⟩
            gi_at_call 44
            refine (CallsIn.inRound l (callsIn_wide.2 (mul_any _ _ _))).mono ?_
            rintro e w6 ⟨rfl, hb6⟩
            have t6 := s5.below hb6
            clear c0 c1 c2 c3 d0 d1 d2 d3 c0' c1' c2' c3' d0' d1' d2' d3' q5 f5
            obtain ⟨⟨c0, c1, c2, c3⟩, ⟨d0, d1, d2, d3⟩⟩ := t6.cells
            have q6 := objAt_cell t6.cs 1
            have f6 := objAt_free t6.cs 1
            rw [show (_ : Array Value)[1]? = some (.int .u64 0) from rfl] at q6
            have s6 := t6.setS 1 (.int .u64 (n64 (Gf.clm (wxor (wd yx 2) (wd yx 3)) (wxor (wd h 2) (wd h 3)))))
            obtain ⟨⟨c0', c1', c2', c3'⟩, ⟨d0', d1', d2', d3'⟩⟩ := s6.cells
            gi_wp2
            refine ⟨trivial, fun hh => (by simp [Fence.wide] at hh), ?_⟩
            gi_at_call 44
            refine (CallsIn.inRound l (callsIn_wide.2 (mul_any _ _ _))).mono ?_
            rintro e w7 ⟨rfl, hb7⟩
            have t7 := s6.below hb7
            clear c0 c1 c2 c3 d0 d1 d2 d3 c0' c1' c2' c3' d0' d1' d2' d3' q6 f6
            obtain ⟨⟨c0, c1, c2, c3⟩, ⟨d0, d1, d2, d3⟩⟩ := t7.cells
            have q7 := objAt_cell t7.cl 2
            have f7 := objAt_free t7.cl 2
            rw [show (_ : Array Value)[2]? = some (.int .u64 0) from rfl] at q7
            have s7 := t7.setL 2 (.int .u64 (n64 (Gf.clm (wxor (wd yx 0) (wd yx 2)) (wxor (wd h 0) (wd h 2)))))
            obtain ⟨⟨c0', c1', c2', c3'⟩, ⟨d0', d1', d2', d3'⟩⟩ := s7.cells
            gi_wp2
            refine ⟨trivial, fun hh => (by simp [Fence.wide] at hh), ?_⟩
            gi_at_call 44
            refine (CallsIn.inRound l (callsIn_wide.2 (mul_any _ _ _))).mono ?_
            rintro e w8 ⟨rfl, hb8⟩
            have t8 := s7.below hb8
            clear c0 c1 c2 c3 d0 d1 d2 d3 c0' c1' c2' c3' d0' d1' d2' d3' q7 f7
            obtain ⟨⟨c0, c1, c2, c3⟩, ⟨d0, d1, d2, d3⟩⟩ := t8.cells
            have q8 := objAt_cell t8.cm 2
            have f8 := objAt_free t8.cm 2
            rw [show (_ : Array Value)[2]? = some (.int .u64 0) from rfl] at q8
            have s8 := t8.setM 2 (.int .u64 (n64 (Gf.clm (wxor (wd yx 1) (wd yx 3)) (wxor (wd h 1) (wd h 3)))))
            obtain ⟨⟨c0', c1', c2', c3'⟩, ⟨d0', d1', d2', d3'⟩⟩ := s8.cells
            gi_wp2
            refine ⟨trivial, fun hh => (by simp [Fence.wide] at hh), ?_⟩
            gi_at_call 44
            refine (CallsIn.inRound l (callsIn_wide.2 (mul_any _ _ _))).mono ?_
            rintro e w9 ⟨rfl, hb9⟩
            have t9 := s8.below hb9
            clear c0 c1 c2 c3 d0 d1 d2 d3 c0' c1' c2' c3' d0' d1' d2' d3' q8 f8
            obtain ⟨⟨c0, c1, c2, c3⟩, ⟨d0, d1, d2, d3⟩⟩ := t9.cells
            have q9 := objAt_cell t9.cs 2
            have f9 := objAt_free t9.cs 2
            rw [show (_ : Array Value)[2]? = some (.int .u64 0) from rfl] at q9
            have s9 := t9.setS 2 (.int .u64 (n64 (Gf.clm (wxor (wxor (wd yx 0) (wd yx 2)) (wxor (wd yx 1) (wd yx 3))) (wxor (wxor (wd h 0) (wd h 2)) (wxor (wd h 1) (wd h 3))))))
            obtain ⟨⟨c0', c1', c2', c3'⟩, ⟨d0', d1', d2', d3'⟩⟩ := s9.cells
            have s10 : GSt W (w.heap.size + 1) wo.heap.size yx h (row3 (Gf.clm (wd yx 0) (wd h 0)) (Gf.clm (wd yx 2) (wd h 2)) (Gf.clm (wxor (wd yx 0) (wd yx 2)) (wxor (wd h 0) (wd h 2)))) (row3 (Gf.clm (wd yx 1) (wd h 1)) (Gf.clm (wd yx 3) (wd h 3)) (Gf.clm (wxor (wd yx 1) (wd yx 3)) (wxor (wd h 1) (wd h 3)))) (row3 (Gf.clm (wxor (wd yx 0) (wd yx 1)) (wxor (wd h 0) (wd h 1))) (Gf.clm (wxor (wd yx 2) (wd yx 3)) (wxor (wd h 2) (wd h 3))) (Gf.clm (wxor (wxor (wd yx 0) (wd yx 2)) (wxor (wd yx 1) (wd yx 3))) (wxor (wxor (wd h 0) (wd h 2)) (wxor (wd h 1) (wd h 3))))) _ := s9
            gi_wp2
            clear s0 s1 s2 s3 s4 s5 s6 s7 s8 s9 t1 t2 t3 t4 t5 t6 t7 t8 t9 hb1 hb2 hb3 hb4 hb5 hb6 hb7 hb8 hb9 c0 c1 c2 c3 d0 d1 d2 d3 c0' c1' c2' c3' d0' d1' d2' d3' q9 f9
            generalize hw10 : w9.setCell ⟨wo.heap.size + 1 + 1, 2, none⟩ (.int .u64 (n64 (Gf.clm (wxor (wxor (wd yx 0) (wd yx 2)) (wxor (wd yx 1) (wd yx 3))) (wxor (wxor (wd h 0) (wd h 2)) (wxor (wd h 1) (wd h 3)))))) = w10 at s10 ⊢
            generalize el0 : Gf.clm (wd yx 0) (wd h 0) = l0 at s10 ⊢
            generalize em0 : Gf.clm (wd yx 1) (wd h 1) = m0 at s10 ⊢
            generalize ep0 : Gf.clm (wxor (wd yx 0) (wd yx 1)) (wxor (wd h 0) (wd h 1)) = p0 at s10 ⊢
            generalize el1 : Gf.clm (wd yx 2) (wd h 2) = l1 at s10 ⊢
            generalize em1 : Gf.clm (wd yx 3) (wd h 3) = m1 at s10 ⊢
            generalize ep1 : Gf.clm (wxor (wd yx 2) (wd yx 3)) (wxor (wd h 2) (wd h 3)) = p1 at s10 ⊢
            generalize el2 : Gf.clm (wxor (wd yx 0) (wd yx 2)) (wxor (wd h 0) (wd h 2)) = l2 at s10 ⊢
            generalize em2 : Gf.clm (wxor (wd yx 1) (wd yx 3)) (wxor (wd h 1) (wd h 3)) = m2 at s10 ⊢
            generalize ep2 : Gf.clm (wxor (wxor (wd yx 0) (wd yx 2)) (wxor (wd yx 1) (wd yx 3))) (wxor (wxor (wd h 0) (wd h 2)) (wxor (wd h 1) (wd h 3))) = p2 at s10 ⊢
            have hR0 : w9.heap.size = w10.heap.size := by rw [← hw10]; simp
            have hR : wo.heap.size + 1 + 1 < w9.heap.size := by rw [hR0]; exact s10.sz
            have hA0 : objAt (w10.alloc (.cells (rTo l0 l1 l2 m0 m1 m2 p0 p1 p2 0) 92)) w9.heap.size = some (.cells (rTo l0 l1 l2 m0 m1 m2 p0 p1 p2 0) 92 (0, 0)) := objAt_alloc_at _ _ _ hR0
            clear hR0
            gi_loopw [158] (fun i wr => ∃ j : Nat, j ≤ 3 ∧ i = .int .i64 j ∧ GSt W (w.heap.size + 1) wo.heap.size yx h (row3 l0 l1 l2) (row3 m0 m1 m2) (row3 p0 p1 p2) wr ∧ objAt wr w9.heap.size = some (.cells (rTo l0 l1 l2 m0 m1 m2 p0 p1 p2 j) 92 (0, 0))) (fun i _ => 3 - lenOf' i)
            case atStart => exact ⟨0, by omega, rfl, s10.below ((Below.refl _ _).alloc (Nat.le_refl _) _), hA0⟩
            case round =>
              obtain ⟨j, hj, rfl, sj, hr⟩ := hrel
              match j, hj with
              | 0, _ =>
                simp only [rTo] at hr
                have k1 : wr.cell? ⟨wo.heap.size + 1 + 1, 0, none⟩ = some (.int .u64 (n64 p0)) := (objAt_cell sj.cs 0).trans rfl
                have k2 : wr.cell? ⟨wo.heap.size, 0, none⟩ = some (.int .u64 (n64 l0)) := (objAt_cell sj.cl 0).trans rfl
                have k3 : wr.cell? ⟨wo.heap.size + 1, 0, none⟩ = some (.int .u64 (n64 m0)) := (objAt_cell sj.cm 0).trans rfl
                gi_wp2
                refine wpRound_region_chain (l := [_, _, _, _, _, _, _, _, _, _, _, _]) (fun w' => ∃ m, w' = wr.drewN m) (fun w' => ∃ m, w' = wr.drewN m) (by kernel_rfl) (by kernel_rfl) ⟨1, rfl⟩ (fun _ h => h) ?_
                iterate 12 (refine chain_val (v := ?_) (by rfl) ?_ ?_; rotate_left; (focus (rintro w2 ⟨mQ, rfl⟩; go_simp; (try with_reducible rfl); done)); simp only [Act.put, List.setIfInBounds_toArray, List.set_cons_zero, List.set_cons_succ])
                refine chain_nil ?_
                rintro w2 ⟨mA, rfl⟩
                gi_wp2
                have k4 : wr.cell? ⟨w9.heap.size, 0, none⟩ = some (.int .u64 0) := (objAt_cell hr 0).trans rfl
                have f4 := objAt_free hr 0
                refine wpRound_region_tail (l := [_, _, _, _, _, _, _, _, _]) (last := _) (fun w' => ∃ m, w' = wr.drewN m) (fun w' => ∃ m, w' = wr.drewN m) (by kernel_rfl) (by kernel_rfl) ⟨mA + 1, rfl⟩ (fun _ h => h) ?_
                iterate 9 (refine chain_val (v := ?_) (by rfl) ?_ ?_; rotate_left; (focus (rintro w2 ⟨mQ, rfl⟩; go_simp; (try with_reducible rfl); done)); simp only [Act.put, List.setIfInBounds_toArray, List.set_cons_zero, List.set_cons_succ])
                refine chain_nil ?_
                rintro w2 ⟨mB, rfl⟩
                simp only [wpOpIn, List.length_cons, List.length_nil, Nat.zero_add, Nat.reduceAdd]
                go_simp
                gi_wp2
                have sx := sj.setR hR 0 (.int .u64 (n64 (wxor l0 (wshl (wxor (wxor p0 l0) m0) 32))))
                have hx' := objAt_set hr 0 (.int .u64 (n64 (wxor l0 (wshl (wxor (wxor p0 l0) m0) 32))))
                generalize wr.setCell ⟨w9.heap.size, 0, none⟩ (.int .u64 (n64 (wxor l0 (wshl (wxor (wxor p0 l0) m0) 32)))) = wx at sx hx' ⊢
                have k5 : wx.cell? ⟨wo.heap.size + 1, 0, none⟩ = some (.int .u64 (n64 m0)) := (objAt_cell sx.cm 0).trans rfl
                have k6 : wx.cell? ⟨w9.heap.size, 1, none⟩ = some (.int .u64 0) := (objAt_cell hx' 1).trans rfl
                have f6 := objAt_free hx' 1
                refine wpRound_region_tail (l := [_, _, _, _, _, _, _, _, _]) (last := _) (fun w' => ∃ m, w' = wx.drewN m) (fun w' => ∃ m, w' = wx.drewN m) (by kernel_rfl) (by kernel_rfl) ⟨mB + 1, rfl⟩ (fun _ h => h) ?_
                iterate 9 (refine chain_val (v := ?_) (by rfl) ?_ ?_; rotate_left; (focus (rintro w2 ⟨mQ, rfl⟩; go_simp; (try with_reducible rfl); done)); simp only [Act.put, List.setIfInBounds_toArray, List.set_cons_zero, List.set_cons_succ])
                refine chain_nil ?_
                rintro w2 ⟨m5, rfl⟩
                simp only [wpOpIn, List.length_cons, List.length_nil, Nat.zero_add, Nat.reduceAdd]
                go_simp
                gi_wp2
                go_roundw
                case rel => exact ⟨1, by omega, by go_num, (sx.setR hR _ _).drewN _, (oa_drewN (objAt_set hx' _ _) _).trans rfl⟩
                case measure => simp [lenOf']
              | 1, _ =>
                simp only [rTo] at hr
                have k1 : wr.cell? ⟨wo.heap.size + 1 + 1, 1, none⟩ = some (.int .u64 (n64 p1)) := (objAt_cell sj.cs 1).trans rfl
                have k2 : wr.cell? ⟨wo.heap.size, 1, none⟩ = some (.int .u64 (n64 l1)) := (objAt_cell sj.cl 1).trans rfl
                have k3 : wr.cell? ⟨wo.heap.size + 1, 1, none⟩ = some (.int .u64 (n64 m1)) := (objAt_cell sj.cm 1).trans rfl
                gi_wp2
                refine wpRound_region_chain (l := [_, _, _, _, _, _, _, _, _, _, _, _]) (fun w' => ∃ m, w' = wr.drewN m) (fun w' => ∃ m, w' = wr.drewN m) (by kernel_rfl) (by kernel_rfl) ⟨1, rfl⟩ (fun _ h => h) ?_
                iterate 12 (refine chain_val (v := ?_) (by rfl) ?_ ?_; rotate_left; (focus (rintro w2 ⟨mQ, rfl⟩; go_simp; (try with_reducible rfl); done)); simp only [Act.put, List.setIfInBounds_toArray, List.set_cons_zero, List.set_cons_succ])
                refine chain_nil ?_
                rintro w2 ⟨mA, rfl⟩
                gi_wp2
                have k4 : wr.cell? ⟨w9.heap.size, 2, none⟩ = some (.int .u64 0) := (objAt_cell hr 2).trans rfl
                have f4 := objAt_free hr 2
                refine wpRound_region_tail (l := [_, _, _, _, _, _, _, _, _]) (last := _) (fun w' => ∃ m, w' = wr.drewN m) (fun w' => ∃ m, w' = wr.drewN m) (by kernel_rfl) (by kernel_rfl) ⟨mA + 1, rfl⟩ (fun _ h => h) ?_
                iterate 9 (refine chain_val (v := ?_) (by rfl) ?_ ?_; rotate_left; (focus (rintro w2 ⟨mQ, rfl⟩; go_simp; (try with_reducible rfl); done)); simp only [Act.put, List.setIfInBounds_toArray, List.set_cons_zero, List.set_cons_succ])
                refine chain_nil ?_
                rintro w2 ⟨mB, rfl⟩
                simp only [wpOpIn, List.length_cons, List.length_nil, Nat.zero_add, Nat.reduceAdd]
                go_simp
                gi_wp2
                have sx := sj.setR hR 2 (.int .u64 (n64 (wxor l1 (wshl (wxor (wxor p1 l1) m1) 32))))
                have hx' := objAt_set hr 2 (.int .u64 (n64 (wxor l1 (wshl (wxor (wxor p1 l1) m1) 32))))
                generalize wr.setCell ⟨w9.heap.size, 2, none⟩ (.int .u64 (n64 (wxor l1 (wshl (wxor (wxor p1 l1) m1) 32)))) = wx at sx hx' ⊢
                have k5 : wx.cell? ⟨wo.heap.size + 1, 1, none⟩ = some (.int .u64 (n64 m1)) := (objAt_cell sx.cm 1).trans rfl
                have k6 : wx.cell? ⟨w9.heap.size, 3, none⟩ = some (.int .u64 0) := (objAt_cell hx' 3).trans rfl
                have f6 := objAt_free hx' 3
                refine wpRound_region_tail (l := [_, _, _, _, _, _, _, _, _]) (last := _) (fun w' => ∃ m, w' = wx.drewN m) (fun w' => ∃ m, w' = wx.drewN m) (by kernel_rfl) (by kernel_rfl) ⟨mB + 1, rfl⟩ (fun _ h => h) ?_
                iterate 9 (refine chain_val (v := ?_) (by rfl) ?_ ?_; rotate_left; (focus (rintro w2 ⟨mQ, rfl⟩; go_simp; (try with_reducible rfl); done)); simp only [Act.put, List.setIfInBounds_toArray, List.set_cons_zero, List.set_cons_succ])
                refine chain_nil ?_
                rintro w2 ⟨m5, rfl⟩
                simp only [wpOpIn, List.length_cons, List.length_nil, Nat.zero_add, Nat.reduceAdd]
                go_simp
                gi_wp2
                go_roundw
                case rel => exact ⟨2, by omega, by go_num, (sx.setR hR _ _).drewN _, (oa_drewN (objAt_set hx' _ _) _).trans rfl⟩
                case measure => simp [lenOf']
              | 2, _ =>
                simp only [rTo] at hr
                have k1 : wr.cell? ⟨wo.heap.size + 1 + 1, 2, none⟩ = some (.int .u64 (n64 p2)) := (objAt_cell sj.cs 2).trans rfl
                have k2 : wr.cell? ⟨wo.heap.size, 2, none⟩ = some (.int .u64 (n64 l2)) := (objAt_cell sj.cl 2).trans rfl
                have k3 : wr.cell? ⟨wo.heap.size + 1, 2, none⟩ = some (.int .u64 (n64 m2)) := (objAt_cell sj.cm 2).trans rfl
                gi_wp2
                refine wpRound_region_chain (l := [_, _, _, _, _, _, _, _, _, _, _, _]) (fun w' => ∃ m, w' = wr.drewN m) (fun w' => ∃ m, w' = wr.drewN m) (by kernel_rfl) (by kernel_rfl) ⟨1, rfl⟩ (fun _ h => h) ?_
                iterate 12 (refine chain_val (v := ?_) (by rfl) ?_ ?_; rotate_left; (focus (rintro w2 ⟨mQ, rfl⟩; go_simp; (try with_reducible rfl); done)); simp only [Act.put, List.setIfInBounds_toArray, List.set_cons_zero, List.set_cons_succ])
                refine chain_nil ?_
                rintro w2 ⟨mA, rfl⟩
                gi_wp2
                have k4 : wr.cell? ⟨w9.heap.size, 4, none⟩ = some (.int .u64 0) := (objAt_cell hr 4).trans rfl
                have f4 := objAt_free hr 4
                refine wpRound_region_tail (l := [_, _, _, _, _, _, _, _, _]) (last := _) (fun w' => ∃ m, w' = wr.drewN m) (fun w' => ∃ m, w' = wr.drewN m) (by kernel_rfl) (by kernel_rfl) ⟨mA + 1, rfl⟩ (fun _ h => h) ?_
                iterate 9 (refine chain_val (v := ?_) (by rfl) ?_ ?_; rotate_left; (focus (rintro w2 ⟨mQ, rfl⟩; go_simp; (try with_reducible rfl); done)); simp only [Act.put, List.setIfInBounds_toArray, List.set_cons_zero, List.set_cons_succ])
                refine chain_nil ?_
                rintro w2 ⟨mB, rfl⟩
                simp only [wpOpIn, List.length_cons, List.length_nil, Nat.zero_add, Nat.reduceAdd]
                go_simp
                gi_wp2
                have sx := sj.setR hR 4 (.int .u64 (n64 (wxor l2 (wshl (wxor (wxor p2 l2) m2) 32))))
                have hx' := objAt_set hr 4 (.int .u64 (n64 (wxor l2 (wshl (wxor (wxor p2 l2) m2) 32))))
                generalize wr.setCell ⟨w9.heap.size, 4, none⟩ (.int .u64 (n64 (wxor l2 (wshl (wxor (wxor p2 l2) m2) 32)))) = wx at sx hx' ⊢
                have k5 : wx.cell? ⟨wo.heap.size + 1, 2, none⟩ = some (.int .u64 (n64 m2)) := (objAt_cell sx.cm 2).trans rfl
                have k6 : wx.cell? ⟨w9.heap.size, 5, none⟩ = some (.int .u64 0) := (objAt_cell hx' 5).trans rfl
                have f6 := objAt_free hx' 5
                refine wpRound_region_tail (l := [_, _, _, _, _, _, _, _, _]) (last := _) (fun w' => ∃ m, w' = wx.drewN m) (fun w' => ∃ m, w' = wx.drewN m) (by kernel_rfl) (by kernel_rfl) ⟨mB + 1, rfl⟩ (fun _ h => h) ?_
                iterate 9 (refine chain_val (v := ?_) (by rfl) ?_ ?_; rotate_left; (focus (rintro w2 ⟨mQ, rfl⟩; go_simp; (try with_reducible rfl); done)); simp only [Act.put, List.setIfInBounds_toArray, List.set_cons_zero, List.set_cons_succ])
                refine chain_nil ?_
                rintro w2 ⟨m5, rfl⟩
                simp only [wpOpIn, List.length_cons, List.length_nil, Nat.zero_add, Nat.reduceAdd]
                go_simp
                gi_wp2
                go_roundw
                case rel => exact ⟨3, by omega, by go_num, (sx.setR hR _ _).drewN _, (oa_drewN (objAt_set hx' _ _) _).trans rfl⟩
                case measure => simp [lenOf']
              | 3, _ =>
                simp only [rTo] at hr
                rename (∀ (a : Act) (w : World), Code.wpIn _ _ _ (Code.seq (Code.region 34 _ _) _) _ a w → _) => k34
                have k34' := Lib.hid k34
                clear k34 hclr hH1 hb hcell hcell' hy hh4 s10 hA0 hI hY hH hin
                gi_wp2
                refine k34'.out _ _ ?_
                clear k34'
                have hRl := oa_lt hr
                generalize eL0 : loW l0 m0 p0 = r0 at hr
                generalize eH0 : hiW l0 m0 p0 = r1 at hr
                generalize eL1 : loW l1 m1 p1 = r2 at hr
                generalize eH1 : hiW l1 m1 p1 = r3 at hr
                generalize eL2 : loW l2 m2 p2 = r4 at hr
                generalize eH2 : hiW l2 m2 p2 = r5 at hr
                have k0 : wr.cell? ⟨w9.heap.size, 0, none⟩ = some (.int .u64 (n64 r0)) := (objAt_cell hr 0).trans rfl
                have k1 : wr.cell? ⟨w9.heap.size, 1, none⟩ = some (.int .u64 (n64 r1)) := (objAt_cell hr 1).trans rfl
                have k2 : wr.cell? ⟨w9.heap.size, 2, none⟩ = some (.int .u64 (n64 r2)) := (objAt_cell hr 2).trans rfl
                have k3 : wr.cell? ⟨w9.heap.size, 3, none⟩ = some (.int .u64 (n64 r3)) := (objAt_cell hr 3).trans rfl
                have k4 : wr.cell? ⟨w9.heap.size, 4, none⟩ = some (.int .u64 (n64 r4)) := (objAt_cell hr 4).trans rfl
                have k5 : wr.cell? ⟨w9.heap.size, 5, none⟩ = some (.int .u64 (n64 r5)) := (objAt_cell hr 5).trans rfl
                have f1 := objAt_free hr 4
                apply wpIn_seq_k; intro K1 hK1
                have hK1' := Lib.hid hK1
                clear hK1
                gi_wp2
                have x1 := sj.setR hR 4 (.int .u64 (n64 (wxor r4 (wxor r0 r2))))
                have y1 := objAt_set hr 4 (.int .u64 (n64 (wxor r4 (wxor r0 r2))))
                have z1 : w9.heap.size < (wr.setCell ⟨w9.heap.size, 4, none⟩ (.int .u64 (n64 (wxor r4 (wxor r0 r2))))).heap.size := by simpa using oa_lt hr
                generalize wr.setCell ⟨w9.heap.size, 4, none⟩ (.int .u64 (n64 (wxor r4 (wxor r0 r2)))) = wx1 at x1 y1 z1 ⊢
                refine hK1'.out _ _ ?_
                clear hK1' K1 k0 k1 k2 k3 k4 k5 f1 sj hr
                generalize ev1 : wxor r4 (wxor r0 r2) = v1 at y1 ⊢
                replace y1 : objAt wx1 w9.heap.size = some (.cells #[.int .u64 (n64 r0), .int .u64 (n64 r1), .int .u64 (n64 r2), .int .u64 (n64 r3), .int .u64 (n64 v1), .int .u64 (n64 r5)] 92 (0, 0)) := y1
                have k0 : wx1.cell? ⟨w9.heap.size, 0, none⟩ = some (.int .u64 (n64 r0)) := (objAt_cell y1 0).trans rfl
                have k1 : wx1.cell? ⟨w9.heap.size, 1, none⟩ = some (.int .u64 (n64 r1)) := (objAt_cell y1 1).trans rfl
                have k2 : wx1.cell? ⟨w9.heap.size, 2, none⟩ = some (.int .u64 (n64 r2)) := (objAt_cell y1 2).trans rfl
                have k3 : wx1.cell? ⟨w9.heap.size, 3, none⟩ = some (.int .u64 (n64 r3)) := (objAt_cell y1 3).trans rfl
                have k4 : wx1.cell? ⟨w9.heap.size, 4, none⟩ = some (.int .u64 (n64 v1)) := (objAt_cell y1 4).trans rfl
                have k5 : wx1.cell? ⟨w9.heap.size, 5, none⟩ = some (.int .u64 (n64 r5)) := (objAt_cell y1 5).trans rfl
                have f1 := objAt_free y1 5
                apply wpIn_seq_k; intro K1 hK1
                have hK1' := Lib.hid hK1
                clear hK1
                gi_wp2
                have x2 := x1.setR hR 5 (.int .u64 (n64 (wxor r5 (wxor r1 r3))))
                have y2 := objAt_set y1 5 (.int .u64 (n64 (wxor r5 (wxor r1 r3))))
                have z2 : w9.heap.size < (wx1.setCell ⟨w9.heap.size, 5, none⟩ (.int .u64 (n64 (wxor r5 (wxor r1 r3))))).heap.size := by simpa using oa_lt y1
                generalize wx1.setCell ⟨w9.heap.size, 5, none⟩ (.int .u64 (n64 (wxor r5 (wxor r1 r3)))) = wx2 at x2 y2 z2 ⊢
                refine hK1'.out _ _ ?_
                clear hK1' K1 k0 k1 k2 k3 k4 k5 f1 x1 y1
                generalize ev2 : wxor r5 (wxor r1 r3) = v2 at y2 ⊢
                replace y2 : objAt wx2 w9.heap.size = some (.cells #[.int .u64 (n64 r0), .int .u64 (n64 r1), .int .u64 (n64 r2), .int .u64 (n64 r3), .int .u64 (n64 v1), .int .u64 (n64 v2)] 92 (0, 0)) := y2
                have k0 : wx2.cell? ⟨w9.heap.size, 0, none⟩ = some (.int .u64 (n64 r0)) := (objAt_cell y2 0).trans rfl
                have k1 : wx2.cell? ⟨w9.heap.size, 1, none⟩ = some (.int .u64 (n64 r1)) := (objAt_cell y2 1).trans rfl
                have k2 : wx2.cell? ⟨w9.heap.size, 2, none⟩ = some (.int .u64 (n64 r2)) := (objAt_cell y2 2).trans rfl
                have k3 : wx2.cell? ⟨w9.heap.size, 3, none⟩ = some (.int .u64 (n64 r3)) := (objAt_cell y2 3).trans rfl
                have k4 : wx2.cell? ⟨w9.heap.size, 4, none⟩ = some (.int .u64 (n64 v1)) := (objAt_cell y2 4).trans rfl
                have k5 : wx2.cell? ⟨w9.heap.size, 5, none⟩ = some (.int .u64 (n64 v2)) := (objAt_cell y2 5).trans rfl
                have f1 := objAt_free y2 1
                apply wpIn_seq_k; intro K1 hK1
                have hK1' := Lib.hid hK1
                clear hK1
                gi_wp2
                have x3 := x2.setR hR 1 (.int .u64 (n64 (wxor r1 v1)))
                have y3 := objAt_set y2 1 (.int .u64 (n64 (wxor r1 v1)))
                have z3 : w9.heap.size < (wx2.setCell ⟨w9.heap.size, 1, none⟩ (.int .u64 (n64 (wxor r1 v1)))).heap.size := by simpa using oa_lt y2
                generalize wx2.setCell ⟨w9.heap.size, 1, none⟩ (.int .u64 (n64 (wxor r1 v1))) = wx3 at x3 y3 z3 ⊢
                refine hK1'.out _ _ ?_
                clear hK1' K1 k0 k1 k2 k3 k4 k5 f1 x2 y2
                generalize ev3 : wxor r1 v1 = v3 at y3 ⊢
                replace y3 : objAt wx3 w9.heap.size = some (.cells #[.int .u64 (n64 r0), .int .u64 (n64 v3), .int .u64 (n64 r2), .int .u64 (n64 r3), .int .u64 (n64 v1), .int .u64 (n64 v2)] 92 (0, 0)) := y3
                have k0 : wx3.cell? ⟨w9.heap.size, 0, none⟩ = some (.int .u64 (n64 r0)) := (objAt_cell y3 0).trans rfl
                have k1 : wx3.cell? ⟨w9.heap.size, 1, none⟩ = some (.int .u64 (n64 v3)) := (objAt_cell y3 1).trans rfl
                have k2 : wx3.cell? ⟨w9.heap.size, 2, none⟩ = some (.int .u64 (n64 r2)) := (objAt_cell y3 2).trans rfl
                have k3 : wx3.cell? ⟨w9.heap.size, 3, none⟩ = some (.int .u64 (n64 r3)) := (objAt_cell y3 3).trans rfl
                have k4 : wx3.cell? ⟨w9.heap.size, 4, none⟩ = some (.int .u64 (n64 v1)) := (objAt_cell y3 4).trans rfl
                have k5 : wx3.cell? ⟨w9.heap.size, 5, none⟩ = some (.int .u64 (n64 v2)) := (objAt_cell y3 5).trans rfl
                have f1 := objAt_free y3 2
                apply wpIn_seq_k; intro K1 hK1
                have hK1' := Lib.hid hK1
                clear hK1
                gi_wp2
                have x4 := x3.setR hR 2 (.int .u64 (n64 (wxor r2 v2)))
                have y4 := objAt_set y3 2 (.int .u64 (n64 (wxor r2 v2)))
                have z4 : w9.heap.size < (wx3.setCell ⟨w9.heap.size, 2, none⟩ (.int .u64 (n64 (wxor r2 v2)))).heap.size := by simpa using oa_lt y3
                generalize wx3.setCell ⟨w9.heap.size, 2, none⟩ (.int .u64 (n64 (wxor r2 v2))) = wx4 at x4 y4 z4 ⊢
                refine hK1'.out _ _ ?_
                clear hK1' K1 k0 k1 k2 k3 k4 k5 f1 x3 y3
                generalize ev4 : wxor r2 v2 = v4 at y4 ⊢
                replace y4 : objAt wx4 w9.heap.size = some (.cells #[.int .u64 (n64 r0), .int .u64 (n64 v3), .int .u64 (n64 v4), .int .u64 (n64 r3), .int .u64 (n64 v1), .int .u64 (n64 v2)] 92 (0, 0)) := y4
                apply wpIn_seq_k; intro K1 hK1
                have hK1' := Lib.hid hK1
                clear hK1
                gi_wp2
                have x5 := x4.below ((Below.refl _ _).alloc (Nat.le_refl _) (.cells #[.int .u64 0, .int .u64 0, .int .u64 0, .int .u64 0] 94))
                have y5 := oa_alloc y4 (.cells #[.int .u64 0, .int .u64 0, .int .u64 0, .int .u64 0] 94)
                have u5 : objAt (wx4.alloc (.cells #[.int .u64 0, .int .u64 0, .int .u64 0, .int .u64 0] 94)) wx4.heap.size = some (.cells #[.int .u64 0, .int .u64 0, .int .u64 0, .int .u64 0] 94 (0, 0)) := objAt_alloc_at _ _ _ rfl
                generalize wx4.alloc (.cells #[.int .u64 0, .int .u64 0, .int .u64 0, .int .u64 0] 94) = wx5 at x5 y5 u5 ⊢
                generalize wx4.heap.size = Z at u5 z4 ⊢
                refine hK1'.out _ _ ?_
                clear hK1' K1 x4 y4 z1 z2 z3
                have k0 : wx5.cell? ⟨w9.heap.size, 0, none⟩ = some (.int .u64 (n64 r0)) := (objAt_cell y5 0).trans rfl
                have k1 : wx5.cell? ⟨w9.heap.size, 1, none⟩ = some (.int .u64 (n64 v3)) := (objAt_cell y5 1).trans rfl
                have k2 : wx5.cell? ⟨w9.heap.size, 2, none⟩ = some (.int .u64 (n64 v4)) := (objAt_cell y5 2).trans rfl
                have k3 : wx5.cell? ⟨w9.heap.size, 3, none⟩ = some (.int .u64 (n64 r3)) := (objAt_cell y5 3).trans rfl
                have k5 : wx5.cell? ⟨Z, 0, none⟩ = some (.int .u64 0) := (objAt_cell u5 0).trans rfl
                have f1 := objAt_free u5 0
                apply wpIn_seq_k; intro K1 hK1
                have hK1' := Lib.hid hK1
                clear hK1
                gi_wp2
                have x6 := x5.setR (Nat.lt_trans hR z4) 0 (.int .u64 (n64 (wshl r0 1)))
                have y6 := oa_set y5 (Nat.ne_of_lt z4) 0 (.int .u64 (n64 (wshl r0 1)))
                have u6 := objAt_set u5 0 (.int .u64 (n64 (wshl r0 1)))
                generalize wx5.setCell ⟨Z, 0, none⟩ (.int .u64 (n64 (wshl r0 1))) = wx6 at x6 y6 u6 ⊢
                refine hK1'.out _ _ ?_
                clear hK1' K1 k0 k1 k2 k3 k5 f1 x5 y5 u5
                generalize ez0 : wshl r0 1 = zz0 at u6 ⊢
                replace u6 : objAt wx6 Z = some (.cells #[.int .u64 (n64 zz0), .int .u64 0, .int .u64 0, .int .u64 0] 94 (0, 0)) := u6
                have k0 : wx6.cell? ⟨w9.heap.size, 0, none⟩ = some (.int .u64 (n64 r0)) := (objAt_cell y6 0).trans rfl
                have k1 : wx6.cell? ⟨w9.heap.size, 1, none⟩ = some (.int .u64 (n64 v3)) := (objAt_cell y6 1).trans rfl
                have k2 : wx6.cell? ⟨w9.heap.size, 2, none⟩ = some (.int .u64 (n64 v4)) := (objAt_cell y6 2).trans rfl
                have k3 : wx6.cell? ⟨w9.heap.size, 3, none⟩ = some (.int .u64 (n64 r3)) := (objAt_cell y6 3).trans rfl
                have k5 : wx6.cell? ⟨Z, 1, none⟩ = some (.int .u64 0) := (objAt_cell u6 1).trans rfl
                have f1 := objAt_free u6 1
                apply wpIn_seq_k; intro K1 hK1
                have hK1' := Lib.hid hK1
                clear hK1
                gi_wp2
                have x7 := x6.setR (Nat.lt_trans hR z4) 1 (.int .u64 (n64 (wor (wshl v3 1) (wshr r0 63))))
                have y7 := oa_set y6 (Nat.ne_of_lt z4) 1 (.int .u64 (n64 (wor (wshl v3 1) (wshr r0 63))))
                have u7 := objAt_set u6 1 (.int .u64 (n64 (wor (wshl v3 1) (wshr r0 63))))
                generalize wx6.setCell ⟨Z, 1, none⟩ (.int .u64 (n64 (wor (wshl v3 1) (wshr r0 63)))) = wx7 at x7 y7 u7 ⊢
                refine hK1'.out _ _ ?_
                clear hK1' K1 k0 k1 k2 k3 k5 f1 x6 y6 u6
                generalize ez1 : wor (wshl v3 1) (wshr r0 63) = zz1 at u7 ⊢
                replace u7 : objAt wx7 Z = some (.cells #[.int .u64 (n64 zz0), .int .u64 (n64 zz1), .int .u64 0, .int .u64 0] 94 (0, 0)) := u7
                have k0 : wx7.cell? ⟨w9.heap.size, 0, none⟩ = some (.int .u64 (n64 r0)) := (objAt_cell y7 0).trans rfl
                have k1 : wx7.cell? ⟨w9.heap.size, 1, none⟩ = some (.int .u64 (n64 v3)) := (objAt_cell y7 1).trans rfl
                have k2 : wx7.cell? ⟨w9.heap.size, 2, none⟩ = some (.int .u64 (n64 v4)) := (objAt_cell y7 2).trans rfl
                have k3 : wx7.cell? ⟨w9.heap.size, 3, none⟩ = some (.int .u64 (n64 r3)) := (objAt_cell y7 3).trans rfl
                have k5 : wx7.cell? ⟨Z, 2, none⟩ = some (.int .u64 0) := (objAt_cell u7 2).trans rfl
                have f1 := objAt_free u7 2
                apply wpIn_seq_k; intro K1 hK1
                have hK1' := Lib.hid hK1
                clear hK1
                gi_wp2
                have x8 := x7.setR (Nat.lt_trans hR z4) 2 (.int .u64 (n64 (wor (wshl v4 1) (wshr v3 63))))
                have y8 := oa_set y7 (Nat.ne_of_lt z4) 2 (.int .u64 (n64 (wor (wshl v4 1) (wshr v3 63))))
                have u8 := objAt_set u7 2 (.int .u64 (n64 (wor (wshl v4 1) (wshr v3 63))))
                generalize wx7.setCell ⟨Z, 2, none⟩ (.int .u64 (n64 (wor (wshl v4 1) (wshr v3 63)))) = wx8 at x8 y8 u8 ⊢
                refine hK1'.out _ _ ?_
                clear hK1' K1 k0 k1 k2 k3 k5 f1 x7 y7 u7
                generalize ez2 : wor (wshl v4 1) (wshr v3 63) = zz2 at u8 ⊢
                replace u8 : objAt wx8 Z = some (.cells #[.int .u64 (n64 zz0), .int .u64 (n64 zz1), .int .u64 (n64 zz2), .int .u64 0] 94 (0, 0)) := u8
                have k0 : wx8.cell? ⟨w9.heap.size, 0, none⟩ = some (.int .u64 (n64 r0)) := (objAt_cell y8 0).trans rfl
                have k1 : wx8.cell? ⟨w9.heap.size, 1, none⟩ = some (.int .u64 (n64 v3)) := (objAt_cell y8 1).trans rfl
                have k2 : wx8.cell? ⟨w9.heap.size, 2, none⟩ = some (.int .u64 (n64 v4)) := (objAt_cell y8 2).trans rfl
                have k3 : wx8.cell? ⟨w9.heap.size, 3, none⟩ = some (.int .u64 (n64 r3)) := (objAt_cell y8 3).trans rfl
                have k5 : wx8.cell? ⟨Z, 3, none⟩ = some (.int .u64 0) := (objAt_cell u8 3).trans rfl
                have f1 := objAt_free u8 3
                apply wpIn_seq_k; intro K1 hK1
                have hK1' := Lib.hid hK1
                clear hK1
                gi_wp2
                have x9 := x8.setR (Nat.lt_trans hR z4) 3 (.int .u64 (n64 (wor (wshl r3 1) (wshr v4 63))))
                have y9 := oa_set y8 (Nat.ne_of_lt z4) 3 (.int .u64 (n64 (wor (wshl r3 1) (wshr v4 63))))
                have u9 := objAt_set u8 3 (.int .u64 (n64 (wor (wshl r3 1) (wshr v4 63))))
                generalize wx8.setCell ⟨Z, 3, none⟩ (.int .u64 (n64 (wor (wshl r3 1) (wshr v4 63)))) = wx9 at x9 y9 u9 ⊢
                refine hK1'.out _ _ ?_
                clear hK1' K1 k0 k1 k2 k3 k5 f1 x8 y8 u8
                generalize ez3 : wor (wshl r3 1) (wshr v4 63) = zz3 at u9 ⊢
                replace u9 : objAt wx9 Z = some (.cells #[.int .u64 (n64 zz0), .int .u64 (n64 zz1), .int .u64 (n64 zz2), .int .u64 (n64 zz3)] 94 (0, 0)) := u9
                clear y9
                gi_wp2
                gi_loopw [270] (fun i wr => ∃ j : Nat, j ≤ 2 ∧ i = .int .i64 j ∧ GSt W (w.heap.size + 1) wo.heap.size yx h (row3 l0 l1 l2) (row3 m0 m1 m2) (row3 p0 p1 p2) wr ∧ objAt wr Z = some (.cells (zTo zz0 zz1 zz2 zz3 j) 94 (0, 0))) (fun i _ => 2 - lenOf' i)
                case atStart => exact ⟨0, by omega, rfl, x9, u9⟩
                case round =>
                  obtain ⟨j, hj, rfl, sj, hr⟩ := hrel
                  match j, hj with
                  | 0, _ =>
                    simp only [zTo] at hr
                    have k0 : wr.cell? ⟨Z, 0, none⟩ = some (.int .u64 (n64 zz0)) := (objAt_cell hr 0).trans rfl
                    have k1 : wr.cell? ⟨Z, 1, none⟩ = some (.int .u64 (n64 zz1)) := (objAt_cell hr 1).trans rfl
                    have k2 : wr.cell? ⟨Z, 2, none⟩ = some (.int .u64 (n64 zz2)) := (objAt_cell hr 2).trans rfl
                    have f1 := objAt_free hr 1
                    have f2 := objAt_free hr 2
                    gi_wp2
                    go_roundw
                    case rel => exact ⟨1, by omega, by go_num, (sj.setR (Nat.lt_trans hR z4) _ _).setR (Nat.lt_trans hR z4) _ _, (objAt_set (objAt_set hr _ _) _ _).trans rfl⟩
                    case measure => simp [lenOf']
                  | 1, _ =>
                    simp only [zTo] at hr
                    have k1 : wr.cell? ⟨Z, 1, none⟩ = some (.int .u64 (n64 (wxor zz1 (gW zz0)))) := (objAt_cell hr 1).trans rfl
                    have k2 : wr.cell? ⟨Z, 2, none⟩ = some (.int .u64 (n64 (wxor zz2 (fW zz0)))) := (objAt_cell hr 2).trans rfl
                    have k3 : wr.cell? ⟨Z, 3, none⟩ = some (.int .u64 (n64 zz3)) := (objAt_cell hr 3).trans rfl
                    have f2 := objAt_free hr 2
                    have f3 := objAt_free hr 3
                    gi_wp2
                    go_roundw
                    case rel => exact ⟨2, by omega, by go_num, (sj.setR (Nat.lt_trans hR z4) _ _).setR (Nat.lt_trans hR z4) _ _, (objAt_set (objAt_set hr _ _) _ _).trans rfl⟩
                    case measure => simp [lenOf']
                  | 2, _ =>
                    simp only [zTo] at hr
                    generalize ec : wxor (wxor zz2 (fW zz0)) (gW (wxor zz1 (gW zz0))) = zc at hr
                    generalize ed : wxor zz3 (fW (wxor zz1 (gW zz0))) = zd at hr
                    have k2 : wr.cell? ⟨Z, 2, none⟩ = some (.int .u64 (n64 zc)) := (objAt_cell hr 2).trans rfl
                    have k3 : wr.cell? ⟨Z, 3, none⟩ = some (.int .u64 (n64 zd)) := (objAt_cell hr 3).trans rfl
                    gi_wp2
                    have cy0 : objAt wr (w.heap.size + 1) = some (.cells #[.int .u32 (n32 (wd yx 0)), .int .u32 (n32 (wd yx 1)), .int .u32 (n32 (wd yx 2)), .int .u32 (n32 (wd yx 3))] 86 (0, 0)) := sj.cy
                    have hYZ : w.heap.size + 1 ≠ Z := by have := sj.yl; omega
                    have cy1 := objAt_set cy0 0 (.int .u32 (n32 (wext 32 zc)))
                    have cz1 := oa_set hr (Ne.symm hYZ) 0 (.int .u32 (n32 (wext 32 zc)))
                    have b12 : (wr.setCell ⟨w.heap.size + 1, 0, none⟩ (.int .u32 (n32 (wext 32 zc)))).cell? ⟨Z, 2, none⟩ = some (.int .u64 (n64 zc)) := (objAt_cell cz1 2).trans rfl
                    have b13 : (wr.setCell ⟨w.heap.size + 1, 0, none⟩ (.int .u32 (n32 (wext 32 zc)))).cell? ⟨Z, 3, none⟩ = some (.int .u64 (n64 zd)) := (objAt_cell cz1 3).trans rfl
                    have cy2 := objAt_set cy1 1 (.int .u32 (n32 (wext 32 (wshr zc 32))))
                    have cz2 := oa_set cz1 (Ne.symm hYZ) 1 (.int .u32 (n32 (wext 32 (wshr zc 32))))
                    have b22 : ((wr.setCell ⟨w.heap.size + 1, 0, none⟩ (.int .u32 (n32 (wext 32 zc)))).setCell ⟨w.heap.size + 1, 1, none⟩ (.int .u32 (n32 (wext 32 (wshr zc 32))))).cell? ⟨Z, 2, none⟩ = some (.int .u64 (n64 zc)) := (objAt_cell cz2 2).trans rfl
                    have b23 : ((wr.setCell ⟨w.heap.size + 1, 0, none⟩ (.int .u32 (n32 (wext 32 zc)))).setCell ⟨w.heap.size + 1, 1, none⟩ (.int .u32 (n32 (wext 32 (wshr zc 32))))).cell? ⟨Z, 3, none⟩ = some (.int .u64 (n64 zd)) := (objAt_cell cz2 3).trans rfl
                    have cy3 := objAt_set cy2 2 (.int .u32 (n32 (wext 32 zd)))
                    have cz3 := oa_set cz2 (Ne.symm hYZ) 2 (.int .u32 (n32 (wext 32 zd)))
                    have b32 : (((wr.setCell ⟨w.heap.size + 1, 0, none⟩ (.int .u32 (n32 (wext 32 zc)))).setCell ⟨w.heap.size + 1, 1, none⟩ (.int .u32 (n32 (wext 32 (wshr zc 32))))).setCell ⟨w.heap.size + 1, 2, none⟩ (.int .u32 (n32 (wext 32 zd)))).cell? ⟨Z, 2, none⟩ = some (.int .u64 (n64 zc)) := (objAt_cell cz3 2).trans rfl
                    have b33 : (((wr.setCell ⟨w.heap.size + 1, 0, none⟩ (.int .u32 (n32 (wext 32 zc)))).setCell ⟨w.heap.size + 1, 1, none⟩ (.int .u32 (n32 (wext 32 (wshr zc 32))))).setCell ⟨w.heap.size + 1, 2, none⟩ (.int .u32 (n32 (wext 32 zd)))).cell? ⟨Z, 3, none⟩ = some (.int .u64 (n64 zd)) := (objAt_cell cz3 3).trans rfl
                    have cy4 := objAt_set cy3 3 (.int .u32 (n32 (wext 32 (wshr zd 32))))
                    have cz4 := oa_set cz3 (Ne.symm hYZ) 3 (.int .u32 (n32 (wext 32 (wshr zd 32))))
                    have b42 : ((((wr.setCell ⟨w.heap.size + 1, 0, none⟩ (.int .u32 (n32 (wext 32 zc)))).setCell ⟨w.heap.size + 1, 1, none⟩ (.int .u32 (n32 (wext 32 (wshr zc 32))))).setCell ⟨w.heap.size + 1, 2, none⟩ (.int .u32 (n32 (wext 32 zd)))).setCell ⟨w.heap.size + 1, 3, none⟩ (.int .u32 (n32 (wext 32 (wshr zd 32))))).cell? ⟨Z, 2, none⟩ = some (.int .u64 (n64 zc)) := (objAt_cell cz4 2).trans rfl
                    have b43 : ((((wr.setCell ⟨w.heap.size + 1, 0, none⟩ (.int .u32 (n32 (wext 32 zc)))).setCell ⟨w.heap.size + 1, 1, none⟩ (.int .u32 (n32 (wext 32 (wshr zc 32))))).setCell ⟨w.heap.size + 1, 2, none⟩ (.int .u32 (n32 (wext 32 zd)))).setCell ⟨w.heap.size + 1, 3, none⟩ (.int .u32 (n32 (wext 32 (wshr zd 32))))).cell? ⟨Z, 3, none⟩ = some (.int .u64 (n64 zd)) := (objAt_cell cz4 3).trans rfl
                    have g0 : wr.cell? ⟨w.heap.size + 1, 0, none⟩ = some (.int .u32 (n32 (wd yx 0))) := (objAt_cell cy0 0).trans rfl
                    have f0 := objAt_free cy0 0
                    have g1 : (wr.setCell ⟨w.heap.size + 1, 0, none⟩ (.int .u32 (n32 (wext 32 zc)))).cell? ⟨w.heap.size + 1, 1, none⟩ = some (.int .u32 (n32 (wd yx 1))) := (objAt_cell cy1 1).trans rfl
                    have f1 := objAt_free cy1 1
                    have g2 : ((wr.setCell ⟨w.heap.size + 1, 0, none⟩ (.int .u32 (n32 (wext 32 zc)))).setCell ⟨w.heap.size + 1, 1, none⟩ (.int .u32 (n32 (wext 32 (wshr zc 32))))).cell? ⟨w.heap.size + 1, 2, none⟩ = some (.int .u32 (n32 (wd yx 2))) := (objAt_cell cy2 2).trans rfl
                    have f2 := objAt_free cy2 2
                    have g3 : (((wr.setCell ⟨w.heap.size + 1, 0, none⟩ (.int .u32 (n32 (wext 32 zc)))).setCell ⟨w.heap.size + 1, 1, none⟩ (.int .u32 (n32 (wext 32 (wshr zc 32))))).setCell ⟨w.heap.size + 1, 2, none⟩ (.int .u32 (n32 (wext 32 zd)))).cell? ⟨w.heap.size + 1, 3, none⟩ = some (.int .u32 (n32 (wd yx 3))) := (objAt_cell cy3 3).trans rfl
                    have f3 := objAt_free cy3 3
                    refine wpRound_region_chain (l := [_, _, _, _, _, _, _, _, _, _, _, _, _, _, _, _, _, _, _, _, _, _]) (fun w' => w'.cell? ⟨Z, 2, none⟩ = some (.int .u64 (n64 zc)) ∧ w'.cell? ⟨Z, 3, none⟩ = some (.int .u64 (n64 zd))) (fun w' => ∃ m, w' = wr.drewN m) (by kernel_rfl) (by kernel_rfl) ⟨1, rfl⟩ (by rintro w2 ⟨mQ, rfl⟩; exact ⟨k2, k3⟩) ?_
                    iterate 14 (refine chain_val (v := ?_) (by rfl) ?_ ?_; rotate_left; (focus (rintro w2 ⟨b2, b3⟩; go_simp; (try with_reducible rfl); done)); simp only [Act.put, List.setIfInBounds_toArray, List.set_cons_zero, List.set_cons_succ])
                    refine chain_val (v := ?_) (by rfl) ?_ ?_; rotate_left; (focus (rintro w2 ⟨b2, b3⟩; go_simp; (try with_reducible rfl); done)); simp only [Act.put, List.setIfInBounds_toArray, List.set_cons_zero, List.set_cons_succ]
                    refine chain_store (fun w' => ∃ m, w' = (wr.setCell ⟨w.heap.size + 1, 0, none⟩ (.int .u32 (n32 (wext 32 zc)))).drewN m) (fun w2 => w2.setCell ⟨w.heap.size + 1, 0, none⟩ (.int .u32 (n32 (wext 32 zc)))) rfl (by rfl) (by rintro w2 ⟨mQ, rfl⟩; exact ⟨b12, b13⟩) ?_ (by rintro w2 ⟨mQ, rfl⟩; exact ⟨mQ, rfl⟩) ?_
                    · rintro w2 ⟨mQ, rfl⟩; go_simp
                    simp only [Act.put]
                    refine chain_val (v := ?_) (by rfl) ?_ ?_; rotate_left; (focus (rintro w2 ⟨b2, b3⟩; go_simp; (try with_reducible rfl); done)); simp only [Act.put, List.setIfInBounds_toArray, List.set_cons_zero, List.set_cons_succ]
                    refine chain_store (fun w' => ∃ m, w' = ((wr.setCell ⟨w.heap.size + 1, 0, none⟩ (.int .u32 (n32 (wext 32 zc)))).setCell ⟨w.heap.size + 1, 1, none⟩ (.int .u32 (n32 (wext 32 (wshr zc 32))))).drewN m) (fun w2 => w2.setCell ⟨w.heap.size + 1, 1, none⟩ (.int .u32 (n32 (wext 32 (wshr zc 32))))) rfl (by rfl) (by rintro w2 ⟨mQ, rfl⟩; exact ⟨b22, b23⟩) ?_ (by rintro w2 ⟨mQ, rfl⟩; exact ⟨mQ, rfl⟩) ?_
                    · rintro w2 ⟨mQ, rfl⟩; go_simp
                    simp only [Act.put]
                    refine chain_val (v := ?_) (by rfl) ?_ ?_; rotate_left; (focus (rintro w2 ⟨b2, b3⟩; go_simp; (try with_reducible rfl); done)); simp only [Act.put, List.setIfInBounds_toArray, List.set_cons_zero, List.set_cons_succ]
                    refine chain_store (fun w' => ∃ m, w' = (((wr.setCell ⟨w.heap.size + 1, 0, none⟩ (.int .u32 (n32 (wext 32 zc)))).setCell ⟨w.heap.size + 1, 1, none⟩ (.int .u32 (n32 (wext 32 (wshr zc 32))))).setCell ⟨w.heap.size + 1, 2, none⟩ (.int .u32 (n32 (wext 32 zd)))).drewN m) (fun w2 => w2.setCell ⟨w.heap.size + 1, 2, none⟩ (.int .u32 (n32 (wext 32 zd)))) rfl (by rfl) (by rintro w2 ⟨mQ, rfl⟩; exact ⟨b32, b33⟩) ?_ (by rintro w2 ⟨mQ, rfl⟩; exact ⟨mQ, rfl⟩) ?_
                    · rintro w2 ⟨mQ, rfl⟩; go_simp
                    simp only [Act.put]
                    refine chain_val (v := ?_) (by rfl) ?_ ?_; rotate_left; (focus (rintro w2 ⟨b2, b3⟩; go_simp; (try with_reducible rfl); done)); simp only [Act.put, List.setIfInBounds_toArray, List.set_cons_zero, List.set_cons_succ]
                    refine chain_store (fun w' => ∃ m, w' = ((((wr.setCell ⟨w.heap.size + 1, 0, none⟩ (.int .u32 (n32 (wext 32 zc)))).setCell ⟨w.heap.size + 1, 1, none⟩ (.int .u32 (n32 (wext 32 (wshr zc 32))))).setCell ⟨w.heap.size + 1, 2, none⟩ (.int .u32 (n32 (wext 32 zd)))).setCell ⟨w.heap.size + 1, 3, none⟩ (.int .u32 (n32 (wext 32 (wshr zd 32))))).drewN m) (fun w2 => w2.setCell ⟨w.heap.size + 1, 3, none⟩ (.int .u32 (n32 (wext 32 (wshr zd 32))))) rfl (by rfl) (by rintro w2 ⟨mQ, rfl⟩; exact ⟨b42, b43⟩) ?_ (by rintro w2 ⟨mQ, rfl⟩; exact ⟨mQ, rfl⟩) ?_
                    · rintro w2 ⟨mQ, rfl⟩; go_simp
                    simp only [Act.put]
                    refine chain_nil ?_
                    rintro w2 ⟨mQ, rfl⟩
                    gi_wp2
                    have kp := ((((sj.kp.set 0 (.int .u32 (n32 (wext 32 zc)))).set 1 (.int .u32 (n32 (wext 32 (wshr zc 32))))).set 2 (.int .u32 (n32 (wext 32 zd)))).set 3 (.int .u32 (n32 (wext 32 (wshr zd 32))))).drewN mQ
                    refine ⟨⟨?_, sj.ch, hI3.trans kp⟩, kp⟩
                    show _ = wds (gmul (yk (seqOf inp) h k ^^^ (seqOf inp).getD k 0#128) h)
                    rw [List.getD_eq_getElem?_getD, hx, Option.getD_some, eyx]
                    exact step_is el0 em0 ep0 el1 em1 ep1 el2 em2 ep2 eL0 eH0 eL1 eH1 eL2 eH2 ev1 ev2 ev3 ev4 ez0 ez1 ez2 ez3 ec ed


theorem ghash_any (Y H : Nat) (x0 h : BitVec 128) (tY tH : TypeId) (inp : List (List (BitVec 8))) (p : Option Addr) (c : Nat) (w : World)
    (hY : objAt w Y = some (.cells (blk x0) tY (0, 0))) (hH : objAt w H = some (.cells (blk h) tH (0, 0))) (hne : H ≠ Y) (hin : InAt Y w (.slice p inp.length c) inp) :
    Calls Tryd.prog 36 #[.pointer (some ⟨Y, 0, none⟩), .pointer (some ⟨H, 0, none⟩), .slice p inp.length c] w (fun e W' => e = .returned (.tuple #[]) ∧ objAt W' Y = some (.cells (blk (yk (seqOf inp) h (seqOf inp).length)) tY (0, 0)) ∧ Keeps Y w W') :=
  callsIn_wide.1 (ghash_in 5 Y H x0 h tY tH inp p c w hY hH hne hin)
end Go.Proofs.YtfcdldcekdbckacDoor
