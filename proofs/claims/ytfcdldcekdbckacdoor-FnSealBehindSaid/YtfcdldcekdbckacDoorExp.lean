/- The expansion of a key under whatever tables: the words of the cipher (those of the inverse cipher are left open). -/
import Derived.Test.YtfcdldcekdbckacDoorEnc
namespace Go.Proofs.YtfcdldcekdbckacDoor
open Go Go.RowKit Gf

/-! ### A key's block -/
def wds60 (K : Nat → BitVec 32) : List Value := (List.range 60).map fun i => .int .u32 (n32 (K i))
/-- How many rounds, the words of the cipher, the words of the inverse cipher. -/
def kbl (r : Nat) (K D : Nat → BitVec 32) : Array Value := (.int .i64 (r : Int) :: (wds60 K ++ wds60 D)).toArray
@[go_sem] theorem kbl_size (r : Nat) (K D : Nat → BitVec 32) : (kbl r K D).size = 121 := by simp [kbl, wds60]
@[go_sem] theorem kbl_0 (r : Nat) (K D : Nat → BitVec 32) : (kbl r K D)[0]? = some (.int .i64 (r : Int)) := rfl
theorem kbl_k (r : Nat) (K D : Nat → BitVec 32) (i : Nat) (hi : i < 60) : (kbl r K D)[1 + i]? = some (.int .u32 (n32 (K i))) := by
  unfold kbl
  rw [List.getElem?_toArray, Nat.add_comm, List.getElem?_cons_succ, List.getElem?_append_left (by simp [wds60]; exact hi)]
  simp [wds60, hi]
theorem kbl_d (r : Nat) (K D : Nat → BitVec 32) (i : Nat) (hi : i < 60) : (kbl r K D)[61 + i]? = some (.int .u32 (n32 (D i))) := by
  unfold kbl
  rw [List.getElem?_toArray, show 61 + i = (60 + i) + 1 by omega, List.getElem?_cons_succ, List.getElem?_append_right (by simp [wds60])]
  simp [wds60, hi]
def updF (K : Nat → BitVec 32) (i : Nat) (x : BitVec 32) : Nat → BitVec 32 := fun j => if j = i then x else K j
theorem kbl_ext {cs : Array Value} {r : Nat} {K D : Nat → BitVec 32} (hs : cs.size = 121) (h0 : cs[0]? = some (.int .i64 (r : Int))) (hk : ∀ i, i < 60 → cs[1 + i]? = some (.int .u32 (n32 (K i)))) (hd : ∀ i, i < 60 → cs[61 + i]? = some (.int .u32 (n32 (D i)))) : cs = kbl r K D := by
  apply Array.ext_getElem?
  intro i
  by_cases h : i < 121
  · by_cases e0 : i = 0
    · subst e0; exact h0
    · by_cases e1 : i < 61
      · obtain ⟨j, rfl⟩ : ∃ j, i = 1 + j := ⟨i - 1, by omega⟩
        rw [hk j (by omega), kbl_k _ _ _ _ (by omega)]
      · obtain ⟨j, rfl⟩ : ∃ j, i = 61 + j := ⟨i - 61, by omega⟩
        rw [hd j (by omega), kbl_d _ _ _ _ (by omega)]
  · rw [Array.getElem?_eq_none (by omega), Array.getElem?_eq_none (by rw [kbl_size]; omega)]
theorem kbl_set0 (r q : Nat) (K D : Nat → BitVec 32) : (kbl r K D).setIfInBounds 0 (.int .i64 (q : Int)) = kbl q K D :=
  kbl_ext (by simp [kbl_size]) (by rw [Array.getElem?_setIfInBounds_self_of_lt (by rw [kbl_size]; decide)]) (fun i hi => by rw [Array.getElem?_setIfInBounds_ne (by omega)]; exact kbl_k _ _ _ _ hi)
    (fun i hi => by rw [Array.getElem?_setIfInBounds_ne (by omega)]; exact kbl_d _ _ _ _ hi)
theorem kbl_setK (r : Nat) (K D : Nat → BitVec 32) (j : Nat) (hj : j < 60) (x : BitVec 32) : (kbl r K D).setIfInBounds (1 + j) (.int .u32 (n32 x)) = kbl r (updF K j x) D :=
  kbl_ext (by simp [kbl_size]) (by rw [Array.getElem?_setIfInBounds_ne (by omega)]; rfl) (fun i hi => by
      unfold updF
      by_cases e : i = j
      · subst e; rw [Array.getElem?_setIfInBounds_self_of_lt (by rw [kbl_size]; omega), if_pos rfl]
      · rw [Array.getElem?_setIfInBounds_ne (by omega), if_neg e]; exact kbl_k _ _ _ _ hi)
    (fun i hi => by rw [Array.getElem?_setIfInBounds_ne (by omega)]; exact kbl_d _ _ _ _ hi)
theorem kbl_setD (r : Nat) (K D : Nat → BitVec 32) (j : Nat) (hj : j < 60) (x : BitVec 32) : (kbl r K D).setIfInBounds (61 + j) (.int .u32 (n32 x)) = kbl r K (updF D j x) :=
  kbl_ext (by simp [kbl_size]) (by rw [Array.getElem?_setIfInBounds_ne (by omega)]; rfl) (fun i hi => by rw [Array.getElem?_setIfInBounds_ne (by omega)]; exact kbl_k _ _ _ _ hi)
    (fun i hi => by
      unfold updF
      by_cases e : i = j
      · subst e; rw [Array.getElem?_setIfInBounds_self_of_lt (by rw [kbl_size]; omega), if_pos rfl]
      · rw [Array.getElem?_setIfInBounds_ne (by omega), if_neg e]; exact kbl_d _ _ _ _ hi)
theorem kbl_putD {w : World} {B r : Nat} {K D : Nat → BitVec 32} {t : TypeId} (h : objAt w B = some (.cells (kbl r K D) t (0, 0))) (j : Nat) (hj : j < 60) (x : BitVec 32) :
    objAt (w.setCell ⟨B, 61 + j, none⟩ (.int .u32 (n32 x))) B = some (.cells (kbl r K (updF D j x)) t (0, 0)) := by
  have := objAt_set h (61 + j) (.int .u32 (n32 x))
  rwa [kbl_setD _ _ _ _ hj] at this
theorem kbl_key (r : Nat) (K D : Nat → BitVec 32) : KeyC (kbl r K D) r K := ⟨rfl, fun i hi => kbl_k _ _ _ i hi⟩
@[go_sem] theorem zero_kbl : Tryd.zeroCells52 = kbl 0 (fun _ => 0#32) (fun _ => 0#32) := by kernel_rfl

/-! ### The words -/
def rotW (x : BitVec 32) : BitVec 32 := wor (wshl x 8) (wshr x 24)
def subW (T : Tab) (x : BitVec 32) : BitVec 32 := lastW T x x x x
/-- What is added to the word nk places back. -/
def tmpW (T : Tab) (nk i : Nat) (t : BitVec 32) : BitVec 32 :=
  if i % nk = 0 then wxor (subW T (rotW t)) (wshl (wext 32 (T.px (i / nk - 1))) 24) else if 6 < nk ∧ i % nk = 4 then subW T t else t
def keyW (ks : List (BitVec 8)) (i : Nat) : BitVec 32 := be32 (ks.getD (4 * i) 0#8) (ks.getD (4 * i + 1) 0#8) (ks.getD (4 * i + 2) 0#8) (ks.getD (4 * i + 3) 0#8)
def nextW (T : Tab) (ks : List (BitVec 8)) (nk i : Nat) (K : Nat → BitVec 32) : BitVec 32 := if i < nk then keyW ks i else wxor (K (i - nk)) (tmpW T nk i (K (i - 1)))
/-- The first n words, the others 0. -/
def expN (T : Tab) (ks : List (BitVec 8)) (nk : Nat) : Nat → Nat → BitVec 32
  | 0 => fun _ => 0#32
  | n + 1 => updF (expN T ks nk n) n (nextW T ks nk n (expN T ks nk n))

theorem rotw_any (x : BitVec 32) (w : World) : Calls Tryd.prog 50 #[.int .u32 (n32 x)] w fun e w' => e = .returned (.int .u32 (n32 (rotW x))) ∧ w' = w := by
  go_enter Tryd.func50, Tryd.ntmps50
  go_wp2
  go_ret
  exact ⟨rfl, rfl⟩
set_option maxHeartbeats 2000000 in
theorem subw_any (T : Tab) (x : BitVec 32) (w : World) (hT : TabAt T w) : Calls Tryd.prog 49 #[.int .u32 (n32 x)] w fun e w' => e = .returned (.int .u32 (n32 (subW T x))) ∧ ∃ m, w' = w.drewN m := by
  have hSL := hT.sb.low
  have hST := hT.sb.top
  clear hT
  go_enter Tryd.func49, Tryd.ntmps49
  go_wp2
  go_quiet (fail)
  go_wp2
  go_ret
  exact ⟨rfl, _, rfl⟩
theorem rks_any (B r : Nat) (K : Nat → BitVec 32) (w : World) (hK : KeyAt w B r K) (hr : r ≤ 14) : Calls Tryd.prog 48 #[.pointer (some ⟨B, 0, none⟩)] w fun e w' => e = .returned (.int .i64 ((4 * (r + 1) : Nat) : Int)) ∧ w' = w := by
  have h0 := hK.zero
  have e0 : IntKind.i64.wrap (((r : Int) + 1) * 4) = ((4 * (r + 1) : Nat) : Int) := by rw [IntKind.wrap_i64]; omega
  have e1 : IntKind.i64.wrap ((r : Int) + 1) = (r : Int) + 1 := by rw [IntKind.wrap_i64]; omega
  clear hK
  go_enter Tryd.func48, Tryd.ntmps48
  go_wp2
  go_ret
  exact ⟨congrArg (fun z => Ending.returned (.int .i64 z)) (show (4 * ((r : Int) + 1)) = ((4 * (r + 1) : Nat) : Int) by omega), rfl⟩
/-- What the expansion leaves. -/
def ExpP (T : Tab) (ks : List (BitVec 8)) (nk r B : Nat) (tB : TypeId) (w : World) (e : Ending) (w' : World) : Prop :=
  e = .returned (.tuple #[]) ∧ ∃ D, objAt w' B = some (.cells (kbl r (expN T ks nk (4 * (r + 1))) D) tB (0, 0)) ∧ Keeps B w w'

set_option maxRecDepth 100000 in
set_option maxHeartbeats 8000000 in
theorem exp_any (T : Tab) (B r nk kb ko kc : Nat) (ks : List (BitVec 8)) (tB : TypeId) (w : World) (hT : TabAt T w) (hB : objAt w B = some (.cells (kbl r (fun _ => 0#32) (fun _ => 0#32)) tB (0, 0))) (hG : nG ≤ B)
    (hks : ks.length = 4 * nk) (hnk : nk = 4 ∨ nk = 6 ∨ nk = 8) (hr : r = nk + 6) (hkey : ∀ i x, ks[i]? = some x → w.cell? ⟨kb, ko + i, none⟩ = some (.int .u8 (n8 x))) (hkb : kb ≠ B) (hkl : kb < w.heap.size) (hkc : ks.length ≤ kc) (hkc2 : (kc : Int) ≤ 9223372036854775807) :
    Calls Tryd.prog 40 #[.pointer (some ⟨B, 0, none⟩), .slice (some ⟨kb, ko, none⟩) ks.length kc] w (ExpP T ks nk r B tB w) := by
  have hnk4 : 4 ≤ nk := by omega
  have hnk8 : nk ≤ 8 := by omega
  have hkq : (ks.length : Int) / 4 = (nk : Int) := by omega
  have HB := Lib.hid hB
  have HT := Lib.hid hT
  have HY := Lib.hid hkey
  clear hB hT hkey
  have HR := Lib.hid hr
  have HL := Lib.hid hks
  clear hr hks
  go_enter Tryd.func40, Tryd.ntmps40
  go_wp2_with (go_at_call 46; (with_reducible refine (achk_any _).mono ?_); rintro e w1 ⟨rfl, hw1⟩; replace hw1 := hw1.symm; subst hw1)
  clear hkq
  go_loopw [4] (fun i wr => ∃ k : Nat, k ≤ nk ∧ i = .int .i64 (k : Int) ∧ objAt wr B = some (.cells (kbl r (expN T ks nk k) (fun _ => 0#32)) tB (0, 0)) ∧ Keeps B w wr) (fun i _ => nk - (intOf i).toNat)
  case atStart => exact ⟨0, by omega, rfl, HB.out, Keeps.refl _ _⟩
  case round =>
    obtain ⟨k, hk, rfl, hBk, hK⟩ := hrel
    have HBk := Lib.hid hBk
    have HK := Lib.hid hK
    by_cases hlt : k < nk
    · have hlt' : (k : Int) < nk := by omega
      have e0 : IntKind.i64.wrap (4 * (k : Int)) = ((4 * k : Nat) : Int) := by rw [IntKind.wrap_i64]; omega
      have ck := (objAt_cell hBk (1 + k)).trans (kbl_k _ _ _ k (by omega))
      have fk := objAt_free hBk (1 + k)
      have hb60 : (k : Int) < 60 := by omega
      have hcell : ∀ (j : Nat), j < 4 → wr.cell? ⟨kb, ko + 4 * k + j, none⟩ = some (.int .u8 (n8 (ks.getD (4 * k + j) 0#8))) := fun j hj => by
        have hj2 : 4 * k + j < ks.length := by rw [HL.out]; omega
        rw [hK.cell hkl hkb, Nat.add_assoc]
        refine HY.out _ _ ?_
        rw [List.getD_eq_getElem?_getD, List.getElem?_eq_getElem hj2]; rfl
      have g := fun m => abe_any kb (ko + 4 * k) (ks.length - 4 * k) (kc - 4 * k) _ _ _ _ (wr.drewN m) (by rw [HL.out]; omega) (by omega) (by simpa using hcell 0 (by decide)) (hcell 1 (by decide)) (hcell 2 (by decide)) (hcell 3 (by decide))
      clear hBk hK hcell
      go_wp2
      have e1 : 4 * (k : Int) ≤ (ks.length : Int) := by rw [HL.out]; omega
      have e2 : 0 ≤ 4 * (k : Int) := by omega
      have e3 : (4 * (k : Int)).toNat = 4 * k := by omega
      have e4 : ¬ kc = 4 * k := by have := HL.out; omega
      refine wp_region_chain (l := [_, _, _, _, _, _, _, _, _, _, _]) (fun _ => True) (fun w' => ∃ m, w' = wr.drewN m) (by kernel_rfl) (by kernel_rfl) ⟨1, rfl⟩ (fun _ _ => trivial) ?_
      iterate 6 (refine chain_val (v := ?_) (by rfl) ?_ ?_; rotate_left; (focus (intro w2 b2; (try obtain ⟨m2, rfl⟩ := b2); go_simp; (try with_reducible rfl); done)); simp only [Act.put, List.setIfInBounds_toArray, List.set_cons_zero, List.set_cons_succ])
      have G := Lib.hid g
      clear g
      refine chain_call (fun w' => ∃ m, w' = wr.drewN m) (v := .int .u32 (n32 (keyW ks k))) (f := 47) (args := #[.slice (some ⟨kb, ko + 4 * k, none⟩) (ks.length - 4 * k) (kc - 4 * k)]) rfl (by rfl) (fun _ _ => trivial) (fun w2 b2 => (by go_simp; done))
        (fun w2 b2 => (by obtain ⟨m2, rfl⟩ := b2; exact (G.out m2).mono fun _ _ ⟨he, m3, hm⟩ => ⟨he, m2 + m3, by rw [hm, World.drewN_drewN]⟩)) ?_
      simp only [Act.put, List.setIfInBounds_toArray, List.set_cons_zero, List.set_cons_succ]
      iterate 3 (refine chain_val (v := ?_) (by rfl) ?_ ?_; rotate_left; (focus (intro w2 b2; (try obtain ⟨m2, rfl⟩ := b2); go_simp; (try with_reducible rfl); done)); simp only [Act.put, List.setIfInBounds_toArray, List.set_cons_zero, List.set_cons_succ])
      refine chain_store (fun w' => ∃ m, w' = (wr.setCell ⟨B, 1 + k, none⟩ (.int .u32 (n32 (keyW ks k)))).drewN m) (fun w' => w'.setCell ⟨B, 1 + k, none⟩ (.int .u32 (n32 (keyW ks k)))) rfl (by rfl) (fun _ _ => trivial)
        (fun w2 b2 => (by obtain ⟨m2, rfl⟩ := b2; go_simp; done)) (fun w2 b2 => (by obtain ⟨m2, rfl⟩ := b2; exact ⟨m2, rfl⟩)) ?_
      simp only [Act.put]
      refine chain_nil fun w2 b2 => ?_
      obtain ⟨m2, rfl⟩ := b2
      go_wp2
      go_roundw
      case rel =>
        refine ⟨k + 1, by omega, by go_num, ?_, ?_⟩
        · have h := objAt_set HBk.out (1 + k) (.int .u32 (n32 (keyW ks k)))
          rw [kbl_setK _ _ _ _ (by omega)] at h
          have e : expN T ks nk (k + 1) = updF (expN T ks nk k) k (keyW ks k) := by
            show updF (expN T ks nk k) k (nextW T ks nk k (expN T ks nk k)) = _
            unfold nextW
            rw [if_pos hlt]
          rw [e]
          exact h
        · exact keeps_drewN (HK.out.set _ _) _
      case measure => simp [intOf]; omega
    · obtain rfl : k = nk := by omega
      clear hBk hK hlt
      go_wp2_with (fail)
      go_loopw [4, 6] (fun i t wr => ∃ j : Nat, k ≤ j ∧ j ≤ 4 * (r + 1) ∧ i = .int .i64 (j : Int) ∧ objAt wr B = some (.cells (kbl r (expN T ks k j) (fun _ => 0#32)) tB (0, 0)) ∧ Keeps B w wr) (fun i _ _ => 4 * (r + 1) - (intOf i).toNat)
      case atStart => exact ⟨k, Nat.le_refl _, by have := HR.out; omega, rfl, HBk.out, HK.out⟩
      case round =>
        obtain ⟨j, hj1, hj2, rfl, hBj, hKj⟩ := hrel
        have HBj := Lib.hid hBj
        have HKj := Lib.hid hKj
        have gk := rks_any B r _ wr ⟨_, _, _, hBj, kbl_key r _ _⟩ (by have := HR.out; omega)
        have hTj : TabAt T wr := HT.out.keeps hKj hG
        have HTj := Lib.hid hTj
        have hj60 : 4 * (r + 1) ≤ 60 := by have := HR.out; omega
        by_cases hlt : j < 4 * (r + 1)
        · have hlt' : (j : Int) < ((4 * (r + 1) : Nat) : Int) := by omega
          have b1 : 1 ≤ (j : Int) := by omega
          have b2 : 0 ≤ (j : Int) - 1 := by omega
          have b3 : (j : Int) - 1 < 60 := by omega
          have b4 : ((j : Int) - 1).toNat = j - 1 := by omega
          have c1 := (objAt_cell hBj (1 + (j - 1))).trans (kbl_k _ _ _ (j - 1) (by omega))
          clear hBj hKj hTj
          by_cases h0 : j % k = 0
          · have m0 : (j : Int) % (k : Int) = 0 := by omega
            go_wp2_with (first
              | (go_at_call 48; (with_reducible refine gk.mono ?_); rintro e w1 ⟨rfl, hw1⟩; replace hw1 := hw1.symm; subst hw1; clear gk))
            obtain ⟨q, hq⟩ : ∃ q, q = j / k := ⟨_, rfl⟩
            have q1 : 1 ≤ q := by rw [hq]; exact Nat.div_pos hj1 (by omega)
            have q2 : q ≤ 14 := by rw [hq]; exact Nat.le_trans (Nat.div_le_div_right (by omega : j ≤ 59)) (Nat.le_trans (Nat.div_le_div_left hnk4 (by decide)) (by decide))
            have q3 : (j : Int).tdiv (k : Int) = (q : Int) := by rw [hq, Int.tdiv_eq_ediv_of_nonneg (by omega)]; simp
            have q4 : IntKind.i64.wrap ((q : Int) - 1) = (q : Int) - 1 := IntWalk.i64_in _ (by omega)
            have q5 : 0 ≤ (q : Int) - 1 := by omega
            have q6 : (q : Int) - 1 < 16 := by omega
            have q7 : ((q : Int) - 1).toNat = q - 1 := by omega
            have q8 := HTj.out.px (q - 1) (by omega)
            have HQ := Lib.hid hq
            have k0 : ¬ (k : Int) = 0 := by omega
            clear hq
            go_quiet (first
              | (go_at_call 50; exact Calls.quiet_of_same (rotw_any _ _))
              | (go_at_call 49; exact Calls.quiet_of (subw_any T _ _ (HTj.out.drewN _))))
            go_wp2
            have f1 : IntKind.i64.wrap ((j : Int) - (k : Int)) = (j : Int) - (k : Int) := IntWalk.i64_in _ (by omega)
            have f2 : 0 ≤ (j : Int) - (k : Int) := by omega
            have f3 : (j : Int) - (k : Int) < 60 := by omega
            have f4 : ((j : Int) - (k : Int)).toNat = j - k := by omega
            have f5 : (j : Int) < 60 := by omega
            have f6 : (k : Int) ≤ (j : Int) := by omega
            have c2 := (objAt_cell HBj.out (1 + (j - k))).trans (kbl_k _ _ _ (j - k) (by omega))
            have c3 := (objAt_cell HBj.out (1 + j)).trans (kbl_k _ _ _ j (by omega))
            have c4 := objAt_free HBj.out (1 + j)
            refine wp_region_still_tail 15 (by kernel_rfl) (by kernel_rfl) ?_
            change wpStill _ _ (World.drew _) (fun a' => wpList _ _ _ _ a' (World.drew _)) _ _
            simp only [List.take_succ_cons, List.take_zero, List.drop_succ_cons, List.drop_zero]
            repeat still_step
            refine wpStill_nil ?_
            go_wp2
            go_roundw
            case rel =>
              refine ⟨j + 1, by omega, by omega, by go_num, ?_, ?_⟩
              · have h := objAt_set HBj.out (1 + j) (.int .u32 (n32 (wxor (expN T ks k j (j - k)) (wxor (subW T (rotW (expN T ks k j (j - 1)))) (wshl (wext 32 (T.px (q - 1))) 24)))))
                rw [kbl_setK _ _ _ _ (by omega)] at h
                have e : expN T ks k (j + 1) = updF (expN T ks k j) j (wxor (expN T ks k j (j - k)) (wxor (subW T (rotW (expN T ks k j (j - 1)))) (wshl (wext 32 (T.px (q - 1))) 24))) := by
                  show updF (expN T ks k j) j (nextW T ks k j (expN T ks k j)) = _
                  unfold nextW tmpW
                  rw [if_neg (by omega), if_pos h0, HQ.out]
                rw [e]
                exact h
              · exact keeps_drewN (HKj.out.set _ _) _
            case measure => simp [intOf]; omega
          · have m0 : ¬ (j : Int) % (k : Int) = 0 := by omega
            by_cases h6 : 6 < k
            · have m6 : 6 < (k : Int) := by omega
              by_cases h4 : j % k = 4
              · have m4 : (j : Int) % (k : Int) = 4 := by omega
                go_wp2_with (first
                  | (go_at_call 48; (with_reducible refine gk.mono ?_); rintro e w1 ⟨rfl, hw1⟩; replace hw1 := hw1.symm; subst hw1; clear gk)
                  | (go_at_call 49; (with_reducible refine (subw_any T _ _ HTj.out).mono ?_); rintro e w1 ⟨rfl, mS, rfl⟩))
                have f1 : IntKind.i64.wrap ((j : Int) - (k : Int)) = (j : Int) - (k : Int) := IntWalk.i64_in _ (by omega)
                have f2 : 0 ≤ (j : Int) - (k : Int) := by omega
                have f3 : (j : Int) - (k : Int) < 60 := by omega
                have f4 : ((j : Int) - (k : Int)).toNat = j - k := by omega
                have f5 : (j : Int) < 60 := by omega
                have f6 : (k : Int) ≤ (j : Int) := by omega
                have c2 := (objAt_cell HBj.out (1 + (j - k))).trans (kbl_k _ _ _ (j - k) (by omega))
                have c3 := (objAt_cell HBj.out (1 + j)).trans (kbl_k _ _ _ j (by omega))
                have c4 := objAt_free HBj.out (1 + j)
                refine wp_region_still_tail 15 (by kernel_rfl) (by kernel_rfl) ?_
                change wpStill _ _ (World.drew _) (fun a' => wpList _ _ _ _ a' (World.drew _)) _ _
                simp only [List.take_succ_cons, List.take_zero, List.drop_succ_cons, List.drop_zero]
                repeat still_step
                refine wpStill_nil ?_
                go_wp2
                go_roundw
                case rel =>
                  refine ⟨j + 1, by omega, by omega, by go_num, ?_, ?_⟩
                  · have h := objAt_set HBj.out (1 + j) (.int .u32 (n32 (wxor (expN T ks k j (j - k)) (subW T (expN T ks k j (j - 1))))))
                    rw [kbl_setK _ _ _ _ (by omega)] at h
                    have e : expN T ks k (j + 1) = updF (expN T ks k j) j (wxor (expN T ks k j (j - k)) (subW T (expN T ks k j (j - 1)))) := by
                      show updF (expN T ks k j) j (nextW T ks k j (expN T ks k j)) = _
                      unfold nextW tmpW
                      rw [if_neg (by omega), if_neg h0, if_pos ⟨h6, h4⟩]
                    rw [e]
                    exact h
                  · exact keeps_drewN (HKj.out.set _ _) _
                case measure => simp [intOf]; omega
              · have m4 : ¬ (j : Int) % (k : Int) = 4 := by omega
                go_wp2_with (first
                  | (go_at_call 48; (with_reducible refine gk.mono ?_); rintro e w1 ⟨rfl, hw1⟩; replace hw1 := hw1.symm; subst hw1; clear gk)
                  | (go_at_call 49; (with_reducible refine (subw_any T _ _ HTj.out).mono ?_); rintro e w1 ⟨rfl, mS, rfl⟩))
                have f1 : IntKind.i64.wrap ((j : Int) - (k : Int)) = (j : Int) - (k : Int) := IntWalk.i64_in _ (by omega)
                have f2 : 0 ≤ (j : Int) - (k : Int) := by omega
                have f3 : (j : Int) - (k : Int) < 60 := by omega
                have f4 : ((j : Int) - (k : Int)).toNat = j - k := by omega
                have f5 : (j : Int) < 60 := by omega
                have f6 : (k : Int) ≤ (j : Int) := by omega
                have c2 := (objAt_cell HBj.out (1 + (j - k))).trans (kbl_k _ _ _ (j - k) (by omega))
                have c3 := (objAt_cell HBj.out (1 + j)).trans (kbl_k _ _ _ j (by omega))
                have c4 := objAt_free HBj.out (1 + j)
                refine wp_region_still_tail 15 (by kernel_rfl) (by kernel_rfl) ?_
                change wpStill _ _ (World.drew _) (fun a' => wpList _ _ _ _ a' (World.drew _)) _ _
                simp only [List.take_succ_cons, List.take_zero, List.drop_succ_cons, List.drop_zero]
                repeat still_step
                refine wpStill_nil ?_
                go_wp2
                go_roundw
                case rel =>
                  refine ⟨j + 1, by omega, by omega, by go_num, ?_, ?_⟩
                  · have h := objAt_set HBj.out (1 + j) (.int .u32 (n32 (wxor (expN T ks k j (j - k)) (expN T ks k j (j - 1)))))
                    rw [kbl_setK _ _ _ _ (by omega)] at h
                    have e : expN T ks k (j + 1) = updF (expN T ks k j) j (wxor (expN T ks k j (j - k)) (expN T ks k j (j - 1))) := by
                      show updF (expN T ks k j) j (nextW T ks k j (expN T ks k j)) = _
                      unfold nextW tmpW
                      rw [if_neg (by omega), if_neg h0, if_neg (fun h => h4 h.2)]
                    rw [e]
                    exact h
                  · exact keeps_drewN (HKj.out.set _ _) _
                case measure => simp [intOf]; omega
            · have m6 : ¬ 6 < (k : Int) := by omega
              go_wp2_with (first
                | (go_at_call 48; (with_reducible refine gk.mono ?_); rintro e w1 ⟨rfl, hw1⟩; replace hw1 := hw1.symm; subst hw1; clear gk)
                | (go_at_call 49; (with_reducible refine (subw_any T _ _ HTj.out).mono ?_); rintro e w1 ⟨rfl, mS, rfl⟩))
              have f1 : IntKind.i64.wrap ((j : Int) - (k : Int)) = (j : Int) - (k : Int) := IntWalk.i64_in _ (by omega)
              have f2 : 0 ≤ (j : Int) - (k : Int) := by omega
              have f3 : (j : Int) - (k : Int) < 60 := by omega
              have f4 : ((j : Int) - (k : Int)).toNat = j - k := by omega
              have f5 : (j : Int) < 60 := by omega
              have f6 : (k : Int) ≤ (j : Int) := by omega
              have c2 := (objAt_cell HBj.out (1 + (j - k))).trans (kbl_k _ _ _ (j - k) (by omega))
              have c3 := (objAt_cell HBj.out (1 + j)).trans (kbl_k _ _ _ j (by omega))
              have c4 := objAt_free HBj.out (1 + j)
              refine wp_region_still_tail 15 (by kernel_rfl) (by kernel_rfl) ?_
              change wpStill _ _ (World.drew _) (fun a' => wpList _ _ _ _ a' (World.drew _)) _ _
              simp only [List.take_succ_cons, List.take_zero, List.drop_succ_cons, List.drop_zero]
              repeat still_step
              refine wpStill_nil ?_
              go_wp2
              go_roundw
              case rel =>
                refine ⟨j + 1, by omega, by omega, by go_num, ?_, ?_⟩
                · have h := objAt_set HBj.out (1 + j) (.int .u32 (n32 (wxor (expN T ks k j (j - k)) (expN T ks k j (j - 1)))))
                  rw [kbl_setK _ _ _ _ (by omega)] at h
                  have e : expN T ks k (j + 1) = updF (expN T ks k j) j (wxor (expN T ks k j (j - k)) (expN T ks k j (j - 1))) := by
                    show updF (expN T ks k j) j (nextW T ks k j (expN T ks k j)) = _
                    unfold nextW tmpW
                    rw [if_neg (by omega), if_neg h0, if_neg (fun h => h6 h.1)]
                  rw [e]
                  exact h
                · exact keeps_drewN (HKj.out.set _ _) _
              case measure => simp [intOf]; omega
        · obtain rfl : j = 4 * (r + 1) := by omega
          have n0 : ((4 * (r + 1) : Nat) : Int) = 4 * ((r : Int) + 1) := by omega
          clear hBj hKj hTj
          go_wp2_with (first
            | (go_at_call 48; (with_reducible refine gk.mono ?_); rintro e w1 ⟨rfl, hw1⟩; replace hw1 := hw1.symm; subst hw1))
          have hfin : ∀ K', K' = expN T ks k (4 * (r + 1)) → objAt wr B = some (.cells (kbl r K' (fun _ => 0#32)) tB (0, 0)) := fun K' h => by rw [h]; exact HBj.out
          generalize hKF : expN T ks k (4 * (r + 1)) = KF at hfin
          have HF := Lib.hid (hfin KF rfl)
          have HKF := Lib.hid hKF
          clear hfin hKF HBj
          go_loopw [8, 9, 10, 11] (fun i _ _ _ wr => ∃ ii D, ii ≤ 4 * (r + 1) ∧ ii % 4 = 0 ∧ i = .int .i64 ((ii : Nat) : Int) ∧ objAt wr B = some (.cells (kbl r KF D) tB (0, 0)) ∧ Keeps B w wr) (fun i _ _ _ _ => 4 * (r + 1) - (intOf i).toNat)
          case atStart => exact ⟨0, _, by omega, rfl, rfl, HF.out, HKj.out⟩
          case round =>
            rename_i wq
            obtain ⟨ii, D, hi1, hi2, rfl, hBi, hKi⟩ := hrel
            by_cases hlt2 : ii < 4 * (r + 1)
            · have l0 : (ii : Int) < 4 * ((r : Int) + 1) := by omega
              have l1 : (ii : Int) ≤ 4 * ((r : Int) + 1) := by omega
              have HBi := Lib.hid hBi
              have HKi := Lib.hid hKi
              clear hBi hKi
              go_wp2
              obtain ⟨ei, hei⟩ : ∃ ei : Nat, 4 * ((r : Int) + 1) - (ii : Int) - 4 = (ei : Int) := ⟨4 * (r + 1) - ii - 4, by omega⟩
              have ei60 : ei < 57 := by omega
              rw [hei]
              have HEI := Lib.hid hei
              clear hei
              have HTi := Lib.hid (HT.out.keeps HKi.out hG)
              go_loopw [10, 11] (fun j _ wr => ∃ jj D, jj ≤ 4 ∧ j = .int .i64 ((jj : Nat) : Int) ∧ objAt wr B = some (.cells (kbl r KF D) tB (0, 0)) ∧ Keeps B w wr) (fun j _ _ => 4 - (intOf j).toNat)
              case atStart => exact ⟨0, _, by omega, rfl, HBi.out, HKi.out⟩
              case round =>
                obtain ⟨jj, D', hj, rfl, hBj, hKj⟩ := hrel
                by_cases hj4 : jj < 4
                · have hj4' : (jj : Int) < 4 := by omega
                  have y0 : (ei : Int) + (jj : Int) < 60 := by omega
                  have y1 : ((ei : Int) + (jj : Int)).toNat = ei + jj := by omega
                  have y2 : 0 ≤ (ei : Int) + (jj : Int) := by omega
                  have z0 : (ii : Int) + (jj : Int) < 60 := by omega
                  have z1 : ((ii : Int) + (jj : Int)).toNat = ii + jj := by omega
                  have z2 : 0 ≤ (ii : Int) + (jj : Int) := by omega
                  have c1 := (objAt_cell hBj (1 + (ei + jj))).trans (kbl_k _ _ _ (ei + jj) (by omega))
                  have c2 := (objAt_cell hBj (61 + (ii + jj))).trans (kbl_d _ _ _ (ii + jj) (by omega))
                  have c3 := objAt_free hBj (61 + (ii + jj))
                  have hT2 : TabAt T _ := HT.out.keeps hKj hG
                  have hSL := hT2.sb.low
                  have hST := hT2.sb.top
                  have hD0 := hT2.d0.byte
                  have hD1 := hT2.d1.byte
                  have hD2 := hT2.d2.byte
                  have hD3 := hT2.d3.byte
                  have HBj := Lib.hid hBj
                  have HKj := Lib.hid hKj
                  clear hBj hKj hT2
                  by_cases hc1 : 0 < ii
                  · have hc1' : 0 < (ii : Int) := by omega
                    by_cases hc2 : ii + 4 < 4 * (r + 1)
                    · have hc2' : (ii : Int) + 4 < 4 * ((r : Int) + 1) := by omega
                      go_wp2
                      go_quiet (fail)
                      go_wp2
                      go_roundw
                      case rel => exact ⟨jj + 1, _, by omega, by go_num, oa_drewN (kbl_putD HBj.out (ii + jj) (by omega) _) _, keeps_drewN (HKj.out.set _ _) _⟩
                      case measure => simp [intOf]; omega
                    · have hc2' : ¬ (ii : Int) + 4 < 4 * ((r : Int) + 1) := by omega
                      go_wp2
                      go_roundw
                      case rel => exact ⟨jj + 1, _, by omega, by go_num, kbl_putD HBj.out (ii + jj) (by omega) _, HKj.out.set _ _⟩
                      case measure => simp [intOf]; omega
                  · have hc1' : ¬ 0 < (ii : Int) := by omega
                    go_wp2
                    go_roundw
                    case rel => exact ⟨jj + 1, _, by omega, by go_num, kbl_putD HBj.out (ii + jj) (by omega) _, HKj.out.set _ _⟩
                    case measure => simp [intOf]; omega
                · have hj4' : ¬ (jj : Int) < 4 := by omega
                  have HBj := Lib.hid hBj
                  have HKj := Lib.hid hKj
                  clear hBj hKj
                  go_wp2
                  go_roundw
                  case rel => exact ⟨ii + 4, _, by omega, by omega, by go_num, HBj.out, HKj.out⟩
                  case measure => simp [intOf]; omega
            · have l0 : ¬ (ii : Int) < 4 * ((r : Int) + 1) := by omega
              have HBi := Lib.hid hBi
              have HKi := Lib.hid hKi
              clear hBi hKi
              go_wp2
              exact bodyPost_end (v := .tuple #[]) (by simp [results, Tryd.results40, go_sem]) rfl ⟨rfl, _, by rw [HKF.out]; exact HBi.out, HKi.out⟩
end Go.Proofs.YtfcdldcekdbckacDoor
