/- A cipher out of a key: New. -/
import Derived.Test.YtfcdldcekdbckacDoorExp
namespace Go.Proofs.YtfcdldcekdbckacDoor
open Go Go.RowKit Gf

def isKey (ks : List (BitVec 8)) : Prop := ks.length = 16 ∨ ks.length = 24 ∨ ks.length = 32
def rOf (ks : List (BitVec 8)) : Nat := ks.length / 4 + 6
def kOf (T : Tab) (ks : List (BitVec 8)) : Nat → BitVec 32 := expN T ks (ks.length / 4) (4 * (rOf ks + 1))
/-- The cipher of a key. -/
def ciph (T : Tab) (ks : List (BitVec 8)) (x : BitVec 128) : BitVec 128 := encB T (rOf ks) (kOf T ks) x
theorem rOf_lo (ks : List (BitVec 8)) : 2 ≤ rOf ks := by unfold rOf; omega
theorem rOf_hi {ks : List (BitVec 8)} (h : isKey ks) : rOf ks ≤ 14 := by unfold rOf; unfold isKey at h; omega
/-- A block holds the cipher's words. -/
def NewP (T : Tab) (ks : List (BitVec 8)) (v : Value) (B : Nat) (tB : TypeId) (w : World) (e : Ending) (w' : World) : Prop :=
  e = .returned v ∧ ∃ D, objAt w' B = some (.cells (kbl (rOf ks) (kOf T ks) D) tB (0, 0)) ∧ Keeps B w w'

set_option maxHeartbeats 2000000 in
theorem newX_any (T : Tab) (B kb ko kc : Nat) (ks : List (BitVec 8)) (tB : TypeId) (w : World) (hk : isKey ks) (hT : TabAt T w) (hB : objAt w B = some (.cells (kbl 0 (fun _ => 0#32) (fun _ => 0#32)) tB (0, 0))) (hG : nG ≤ B)
    (hkey : ∀ i x, ks[i]? = some x → w.cell? ⟨kb, ko + i, none⟩ = some (.int .u8 (n8 x))) (hkb : kb ≠ B) (hkl : kb < w.heap.size) (hkc : ks.length ≤ kc) (hkc2 : (kc : Int) ≤ 9223372036854775807) :
    Calls Tryd.prog 33 #[.pointer (some ⟨B, 0, none⟩), .slice (some ⟨kb, ko, none⟩) ks.length kc] w (NewP T ks (.tuple #[]) B tB w) := by
  have c0 := (objAt_cell hB 0).trans (kbl_0 _ _ _)
  have f0 := objAt_free hB 0
  have hk' := hk
  unfold isKey at hk'
  have s0 := objAt_set hB 0 (.int .i64 (rOf ks : Int))
  rw [kbl_set0] at s0
  have hK : Keeps B w (w.setCell ⟨B, 0, none⟩ (.int .i64 (rOf ks : Int))) := (Keeps.refl B w).set _ _
  have g := exp_any T B (rOf ks) (ks.length / 4) kb ko kc ks tB _ (hT.keeps hK hG) s0 hG (by omega) (by omega) rfl (fun i x hx => (hK.cell hkl hkb _).trans (hkey i x hx)) hkb (by simpa using hkl) hkc hkc2
  have G := Lib.hid (g.mono fun e w' ⟨he, D, h1, h2⟩ => (⟨he, D, h1, hK.trans h2⟩ : NewP T ks (.tuple #[]) B tB w e w'))
  clear g s0 hK hT hB hkey
  rcases hk' with h | h | h
  all_goals
    have G2 := G.out
    have er : (rOf ks : Int) = ((ks.length / 4 + 6 : Nat) : Int) := rfl
    rw [er, h] at G2
    rw [h]
    clear er G
    first | rw [show ((16 / 4 + 6 : Nat) : Int) = 10 from rfl] at G2 | rw [show ((24 / 4 + 6 : Nat) : Int) = 12 from rfl] at G2 | rw [show ((32 / 4 + 6 : Nat) : Int) = 14 from rfl] at G2
    have G3 := Lib.hid G2
    clear G2 h hk
    go_enter Tryd.func33, Tryd.ntmps33
    go_wp2_with (go_at_call 40; (with_reducible refine G3.out.mono ?_); rintro e w1 ⟨rfl, hq⟩; have HQ := Lib.hid hq; clear hq)
    exact bodyPost_end (v := .tuple #[]) (by simp [results, Tryd.results33, go_sem]) rfl ⟨rfl, HQ.out⟩

set_option maxHeartbeats 2000000 in
theorem newB_any (T : Tab) (B kb ko kc : Nat) (ks : List (BitVec 8)) (tB : TypeId) (w : World) (hk : isKey ks) (hT : TabAt T w) (hB : objAt w B = some (.cells (kbl 0 (fun _ => 0#32) (fun _ => 0#32)) tB (0, 0))) (hG : nG ≤ B)
    (hkey : ∀ i x, ks[i]? = some x → w.cell? ⟨kb, ko + i, none⟩ = some (.int .u8 (n8 x))) (hkb : kb ≠ B) (hkl : kb < w.heap.size) (hkc : ks.length ≤ kc) (hkc2 : (kc : Int) ≤ 9223372036854775807) :
    Calls Tryd.prog 23 #[.pointer (some ⟨B, 0, none⟩), .slice (some ⟨kb, ko, none⟩) ks.length kc] w (NewP T ks (.pointer (some ⟨B, 0, none⟩)) B tB w) := by
  have g := newX_any T B kb ko kc ks tB w hk hT hB hG hkey hkb hkl hkc hkc2
  clear hT hB hkey
  go_enter Tryd.func23, Tryd.ntmps23
  go_wp2_with (go_at_call 33; (with_reducible refine g.mono ?_); rintro e w1 ⟨rfl, hq⟩; have HQ := Lib.hid hq; clear hq)
  go_ret
  exact ⟨rfl, HQ.out⟩

set_option maxHeartbeats 2000000 in
theorem newO_any (T : Tab) (B kb ko kc : Nat) (ks : List (BitVec 8)) (tB : TypeId) (w : World) (hk : isKey ks) (hT : TabAt T w) (hB : objAt w B = some (.cells (kbl 0 (fun _ => 0#32) (fun _ => 0#32)) tB (0, 0))) (hG : nG ≤ B)
    (hkey : ∀ i x, ks[i]? = some x → w.cell? ⟨kb, ko + i, none⟩ = some (.int .u8 (n8 x))) (hkb : kb ≠ B) (hkl : kb < w.heap.size) (hkc : ks.length ≤ kc) (hkc2 : (kc : Int) ≤ 9223372036854775807) :
    Calls Tryd.prog 19 #[.pointer (some ⟨B, 0, none⟩), .slice (some ⟨kb, ko, none⟩) ks.length kc] w (NewP T ks (.tuple #[.pointer (some ⟨B, 0, none⟩), .nilIface]) B tB w) := by
  have g := Lib.hid (newB_any T B kb ko kc ks tB w hk hT hB hG hkey hkb hkl hkc hkc2)
  clear hT hB hkey
  unfold isKey at hk
  rcases hk with h | h | h
  all_goals
    have G2 := g.out
    rw [h] at G2 ⊢
    have G3 := Lib.hid G2
    clear G2 g h
    go_enter Tryd.func19, Tryd.ntmps19
    go_wp2_with (go_at_call 23; (with_reducible refine G3.out.mono ?_); rintro e w1 ⟨rfl, hq⟩; have HQ := Lib.hid hq; clear hq)
    go_ret2
    exact ⟨rfl, HQ.out⟩

/-- A pointer to a new block that holds the cipher's words; nothing that was there has turned. -/
def CiphP (T : Tab) (ks : List (BitVec 8)) (w : World) (e : Ending) (w' : World) : Prop :=
  ∃ B, e = .returned (.tuple #[.pointer (some ⟨B, 0, none⟩), .nilIface]) ∧ w.heap.size ≤ B ∧ (∃ D, objAt w' B = some (.cells (kbl (rOf ks) (kOf T ks) D) 52 (0, 0))) ∧ Below w.heap.size w w'
set_option maxHeartbeats 2000000 in
theorem new_any (T : Tab) (ks : List (BitVec 8)) (v : Value) (w : World) (hk : isKey ks) (hT : TabAt T w) (hr : rowOf 0 ks v w) :
    Calls Tryd.prog 14 #[v] w (CiphP T ks w) := by
  obtain ⟨p, kc, rfl, hkc, hkc2, h4⟩ := hr
  obtain ⟨kb, ko, rfl, _, hkl, hkey⟩ := h4.resolve_left (by intro h; subst h; unfold isKey at hk; simp at hk)
  have b0 : Below w.heap.size w (w.alloc (.cells (kbl 0 (fun _ => 0#32) (fun _ => 0#32)) 52)) := (Below.refl _ w).alloc (Nat.le_refl _) _
  have g := newO_any T w.heap.size kb ko kc ks 52 _ hk (hT.below b0 hT.sz) (objAt_alloc_at w (.cells (kbl 0 (fun _ => 0#32) (fun _ => 0#32)) 52) _ rfl) hT.sz (fun i x hx => (cell_same (b0.block kb hkl) _).trans (hkey i x hx)) (by omega) (by simp; omega) hkc hkc2
  have B0 := Lib.hid b0
  clear hT hkey b0 h4
  go_enter Tryd.func14, Tryd.ntmps14
  go_wp2_with (go_at_call 19; (with_reducible refine g.mono ?_); rintro e w1 ⟨rfl, hq⟩; have HQ := Lib.hid hq; clear hq)
  go_ret2
  obtain ⟨D, h1, h2⟩ := HQ.out
  exact ⟨w.heap.size, rfl, Nat.le_refl _, ⟨D, h1⟩, B0.out.trans h2.bel⟩
end Go.Proofs.YtfcdldcekdbckacDoor
