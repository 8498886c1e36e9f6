/- Blocks in counter mode: what ctrBlocks writes. -/
import Derived.Test.YtfcdldcekdbckaeDoorXor
namespace Go.Proofs.YtfcdldcekdbckaeDoor
open Go Go.RowKit Gf

/-! ### The bytes that are added -/
/-- A counter's block. -/
def ctrB (c : BitVec 128) : BitVec 128 := ofBytes fun i => (be64 (hiOf c) ++ be64 (loOf c)).getD i 0#8
theorem ctrB_bytes (c : BitVec 128) : bytesOf (ctrB c) = be64 (hiOf c) ++ be64 (loOf c) := bytesOf_of _ (by rw [List.length_append, be64_length, be64_length])
def ksB (E : BitVec 128 → BitVec 128) (c : BitVec 128) (j : Nat) : BitVec 8 := byte (E (ctrB (cadd c (j / 16)))) (j % 16)
/-- n bytes, from place o on. -/
def ksL (E : BitVec 128 → BitVec 128) (c : BitVec 128) (o n : Nat) : List (BitVec 8) := (List.range n).map fun i => ksB E c (o + i)
theorem ksL_length (E : BitVec 128 → BitVec 128) (c : BitVec 128) (o n : Nat) : (ksL E c o n).length = n := by simp [ksL]
theorem ksL_get (E : BitVec 128 → BitVec 128) (c : BitVec 128) (o n i : Nat) (h : i < n) : (ksL E c o n)[i]? = some (ksB E c (o + i)) := by simp [ksL, h]
theorem ksL_append (E : BitVec 128 → BitVec 128) (c : BitVec 128) (o n m : Nat) : ksL E c o n ++ ksL E c (o + n) m = ksL E c o (n + m) := by
  refine List.ext_getElem? fun i => ?_
  by_cases h : i < n
  · rw [List.getElem?_append_left (by rw [ksL_length]; exact h), ksL_get _ _ _ _ _ h, ksL_get _ _ _ _ _ (by omega)]
  · rw [List.getElem?_append_right (by rw [ksL_length]; omega), ksL_length]
    by_cases h2 : i < n + m
    · rw [ksL_get _ _ _ _ _ (by omega), ksL_get _ _ _ _ _ h2, show o + n + (i - n) = o + i by omega]
    · rw [List.getElem?_eq_none (by rw [ksL_length]; omega), List.getElem?_eq_none (by rw [ksL_length]; omega)]
/-- A whole block of them. -/
theorem ksL_block (E : BitVec 128 → BitVec 128) (c : BitVec 128) (j : Nat) : ksL E c (16 * j) 16 = bytesOf (E (ctrB (cadd c j))) := by
  unfold ksL bytesOf
  refine List.map_congr_left fun i hi => ?_
  have hi' := List.mem_range.1 hi
  unfold ksB
  rw [show (16 * j + i) / 16 = j by omega, show (16 * j + i) % 16 = i by omega]
theorem ksL_shift (E : BitVec 128 → BitVec 128) (c : BitVec 128) (q o n : Nat) : ksL E (cadd c q) o n = ksL E c (16 * q + o) n := by
  unfold ksL
  refine List.map_congr_left fun i _ => ?_
  unfold ksB
  rw [cadd_add, show (16 * q + o + i) / 16 = q + (o + i) / 16 by omega, show (16 * q + o + i) % 16 = (o + i) % 16 by omega]

/-- What the walks over a cipher need of the world. -/
structure CiphAt (T : Tab) (ks : List (BitVec 8)) (w : World) (B : Nat) : Prop where
  tab : TabAt T w
  key : KeyAt w B (rOf ks) (kOf T ks)
  isk : isKey ks
  low : nG ≤ B
theorem CiphAt.below {T : Tab} {ks : List (BitVec 8)} {w w' : World} {B n : Nat} (h : CiphAt T ks w B) (hb : Below n w w') (hn : B < n) : CiphAt T ks w' B :=
  ⟨h.tab.below hb (by have := h.low; omega), h.key.below hb hn, h.isk, h.low⟩
theorem CiphAt.keeps {T : Tab} {ks : List (BitVec 8)} {w w' : World} {B g : Nat} (h : CiphAt T ks w B) (hk : Keeps g w w') (hne : B ≠ g) (hg : nG ≤ g) : CiphAt T ks w' B := ⟨h.tab.keeps hk hg, h.key.keeps hk hne, h.isk, h.low⟩
theorem CiphAt.drewN {T : Tab} {ks : List (BitVec 8)} {w : World} {B : Nat} (h : CiphAt T ks w B) (n : Nat) : CiphAt T ks (w.drewN n) B := ⟨h.tab.drewN n, h.key.same rfl, h.isk, h.low⟩
theorem CiphAt.lt {T : Tab} {ks : List (BitVec 8)} {w : World} {B : Nat} (h : CiphAt T ks w B) : B < w.heap.size := h.key.lt
theorem RdL.blk {w : World} {S o : Nat} {x : BitVec 128} (h : RdL w S o (bytesOf x)) : RdBlk w S o x := fun i hi => h i _ (bytesOf_get x i hi)
theorem rdL_obj {w : World} {S o : Nat} {cs : Array Value} {t : TypeId} {fr : Nat × Nat} {bs : List (BitVec 8)} (h : objAt w S = some (.cells cs t fr)) (hb : BytesIn cs o bs) : RdL w S o bs := fun i x hx => (objAt_cell h _).trans (hb i x hx)
theorem cEnc_any {T : Tab} {ks : List (BitVec 8)} {B : Nat} (D od dn dc S os sn sc : Nat) (cs : Array Value) (tD : TypeId) (x : BitVec 128) (w : World) (hC : CiphAt T ks w B)
    (hD : objAt w D = some (.cells cs tD (0, 0))) (hroom : ByteRoom cs od 16) (hdn : 16 ≤ dn) (hdc : dn ≤ dc) (hsc : sn ≤ sc) (hdn2 : (dn : Int) ≤ 9223372036854775807) (hS : RdL w S os (bytesOf x)) (hsn : 16 ≤ sn) (hsn2 : (sn : Int) ≤ 9223372036854775807) :
    Calls Tryd.prog 38 #[.pointer (some ⟨B, 0, none⟩), .slice (some ⟨D, od, none⟩) dn dc, .slice (some ⟨S, os, none⟩) sn sc] w
      fun e w' => e = .returned (.tuple #[]) ∧ objAt w' D = some (.cells (putL cs od (bytesOf (ciph T ks x))) tD (0, 0)) ∧ Keeps D w w' :=
  encK_any T B (rOf ks) (kOf T ks) D od dn dc S os sn sc cs tD x w hC.tab hC.key (rOf_lo ks) (rOf_hi hC.isk) hD hroom hdn hdc hsc hdn2 hS.blk hsn hsn2
theorem cEncI_any {T : Tab} {ks : List (BitVec 8)} {B : Nat} (D od dn dc S os sn sc : Nat) (cs : Array Value) (tD : TypeId) (x : BitVec 128) (w : World) (hC : CiphAt T ks w B)
    (hD : objAt w D = some (.cells cs tD (0, 0))) (hroom : ByteRoom cs od 16) (hdn : 16 ≤ dn) (hdc : dn ≤ dc) (hsc : sn ≤ sc) (hdn2 : (dn : Int) ≤ 9223372036854775807) (hS : RdL w S os (bytesOf x)) (hsn : 16 ≤ sn) (hsn2 : (sn : Int) ≤ 9223372036854775807) :
    Calls Tryd.prog 26 #[.pointer (some ⟨B, 0, none⟩), .slice (some ⟨D, od, none⟩) dn dc, .slice (some ⟨S, os, none⟩) sn sc] w
      fun e w' => e = .returned (.tuple #[]) ∧ objAt w' D = some (.cells (putL cs od (bytesOf (ciph T ks x))) tD (0, 0)) ∧ Keeps D w w' :=
  encI_any T B (rOf ks) (kOf T ks) D od dn dc S os sn sc cs tD x w hC.tab hC.key (rOf_lo ks) (rOf_hi hC.isk) hD hroom hdn hdc hsc hdn2 hS.blk hsn hsn2

/-- A block of the counter laid into the buffer, then encrypted in its place. -/
theorem put_ctr (Z : Array Value) (E : BitVec 128 → BitVec 128) (c : BitVec 128) (j : Nat) : putL (putL (putL Z 0 (ksL E c 0 (16 * j))) (16 * j) (be64 (hiOf (cadd c j)))) (16 * j + 8) (be64 (loOf (cadd c j))) = putL (putL Z 0 (ksL E c 0 (16 * j))) (16 * j) (bytesOf (ctrB (cadd c j))) := by
  have h := putL_append (putL Z 0 (ksL E c 0 (16 * j))) (16 * j) (be64 (hiOf (cadd c j))) (be64 (loOf (cadd c j)))
  rw [be64_length] at h
  rw [h, ctrB_bytes]
theorem put_ks (Z : Array Value) (E : BitVec 128 → BitVec 128) (c : BitVec 128) (j : Nat) (hz : 16 * j + 16 ≤ Z.size) : putL (putL (putL Z 0 (ksL E c 0 (16 * j))) (16 * j) (bytesOf (ctrB (cadd c j)))) (16 * j) (bytesOf (E (ctrB (cadd c j)))) = putL Z 0 (ksL E c 0 (16 * (j + 1))) := by
  have h := putL_append Z 0 (ksL E c 0 (16 * j)) (bytesOf (E (ctrB (cadd c j))))
  rw [ksL_length, Nat.zero_add] at h
  rw [putL_over _ _ _ _ (by rw [bytesOf_length, bytesOf_length]) (by rw [bytesOf_length, putL_size]; omega), h, ← ksL_block]
  have h2 := ksL_append E c 0 (16 * j) 16
  rw [Nat.zero_add] at h2
  rw [h2, show 16 * (j + 1) = 16 * j + 16 by omega]

set_option maxRecDepth 100000 in
set_option maxHeartbeats 4000000 in
theorem ctrBl_any (T : Tab) (ks : List (BitVec 8)) (B D od dc S os sc q : Nat) (cs : Array Value) (bs : List (BitVec 8)) (tD : TypeId) (c : BitVec 128) (w : World) (hC : CiphAt T ks w B) (hq : q ≤ 8) (hbs : bs.length = 16 * q) (hq0 : 0 < q)
    (hD : objAt w D = some (.cells cs tD (0, 0))) (hroom : ByteRoom cs od bs.length) (hS : RdL w S os bs) (hSl : S < w.heap.size) :
    Calls Tryd.prog 40 #[.pointer (some ⟨B, 0, none⟩), .slice (some ⟨D, od, none⟩) bs.length dc, .slice (some ⟨S, os, none⟩) bs.length sc, .int .u64 (n64 (loOf c)), .int .u64 (n64 (hiOf c))] w
      fun e w' => e = .returned (.tuple #[]) ∧ objAt w' D = some (.cells (putL cs od (xorL bs (ksL (ciph T ks) c 0 bs.length))) tD (0, 0)) ∧ Keeps D w w' := by
  have hmk : (Instr.makeSlice 22 (.int .i64 (bs.length : Int)) (.int .i64 128)).run Tryd.prog w = .ok (.slice (some ⟨w.heap.size, 0, none⟩) bs.length 128) (w.alloc (.cells (bcells (List.replicate 128 0#8)).toArray 5)) := run_makeB w bs.length 128 (by decide) (by omega)
  obtain ⟨N, hN⟩ : ∃ N, N = w.heap.size := ⟨_, rfl⟩
  have hobj : objAt (w.alloc (.cells (bcells (List.replicate 128 0#8)).toArray 5)) N = some (.cells (bcells (List.replicate 128 0#8)).toArray 5 (0, 0)) := by rw [hN]; exact objAt_alloc_at _ _ _ rfl
  have hbel : Below w.heap.size w (w.alloc (.cells (bcells (List.replicate 128 0#8)).toArray 5)) := (Below.refl _ _).alloc (Nat.le_refl _) _
  have hzs : (bcells (List.replicate 128 0#8)).toArray.size = 128 := by rw [List.size_toArray, bcells_length, List.length_replicate]
  have hzr : ByteRoom (bcells (List.replicate 128 0#8)).toArray 0 128 := ⟨List.replicate 128 0#8, List.length_replicate, bytesIn_all _⟩
  rw [← hN] at hmk hbel
  have hDl := oa_lt hD
  have hBl := hC.lt
  have hBN : B < N := by omega
  have HC := Lib.hid hC
  have HD := Lib.hid hD
  have HR := Lib.hid hroom
  have HS := Lib.hid hS
  have HL := Lib.hid hbs
  have hb1 : (bs.length : Int) ≤ 128 := by omega
  clear hC hD hroom hS hbs
  go_enter Tryd.func40, Tryd.ntmps40
  generalize (bcells (List.replicate 128 0#8)).toArray = Z at *
  generalize w.alloc (.cells Z 5) = w0 at *
  have HN := Lib.hid hN
  have HO := Lib.hid hobj
  have HB := Lib.hid hbel
  have HZ := Lib.hid hzs
  clear hN hobj hbel hzs
  go_wp2_with fail
  go_loopw [3, 4, 11] (fun lo hi i wr => ∃ j ii : Nat, j ≤ q ∧ ii = 16 * j ∧ i = .int .i64 (ii : Int) ∧ lo = .int .u64 (n64 (loOf (cadd c j))) ∧ hi = .int .u64 (n64 (hiOf (cadd c j))) ∧ objAt wr N = some (.cells (putL Z 0 (ksL (ciph T ks) c 0 ii)) 5 (0, 0)) ∧ Keeps N w0 wr)
    (fun _ _ i _ => 16 * q - (intOf i).toNat)
  case atStart => exact ⟨0, 0, by omega, rfl, rfl, by rw [cadd_zero], by rw [cadd_zero], HO.out, Keeps.refl _ _⟩
  case round =>
    obtain ⟨j, ii, hj, hii, rfl, rfl, rfl, hN, hK⟩ := hrel
    have HII := Lib.hid hii
    have HNK := Lib.hid hN
    have HK := Lib.hid hK
    have HBN := Lib.hid (HB.out.trans hK.bel)
    clear hN hK
    by_cases hlt : j < q
    · have h1 : (ii : Int) < bs.length := by rw [HL.out]; omega
      have h2 : (ii : Int) ≤ bs.length := by omega
      have h3 : ¬ 128 = ii := by omega
      have h4 : (ii : Int) + 8 ≤ bs.length := by rw [HL.out]; omega
      have h5 : ¬ 128 = ii + 8 := by omega
      have h6 : ((ii : Int) + 8).toNat = ii + 8 := by omega
      have h7 : 0 ≤ (ii : Int) + 8 := by omega
      have hRz : ByteRoom (putL Z 0 (ksL (ciph T ks) c 0 ii)) ii 16 := (hzr.put).sub (by omega) (by omega)
      have HRz := Lib.hid hRz
      have hn1 : 8 ≤ bs.length - ii := by have := HL.out; omega
      have hn2 : 8 ≤ bs.length - (ii + 8) := by have := HL.out; omega
      have hn3 : 16 ≤ bs.length - ii := by have := HL.out; omega
      have ga : ∀ w : World, Calls Tryd.prog 29 #[.int .u64 (n64 (loOf (cadd c j))), .int .u64 (n64 (hiOf (cadd c j))), .int .u64 1] w fun e w' => e = .returned (.tuple #[.int .u64 (n64 (loOf (cadd c (j + 1)))), .int .u64 (n64 (hiOf (cadd c (j + 1))))]) ∧ w' = w := fun w => by
        have := addc_any (cadd c j) 1 (by decide) w
        rw [cadd_add] at this
        exact this
      clear hRz hii
      go_wp2_with (first
        | (go_at_call 44; (with_reducible refine (aput64_any N ii _ _ _ _ 5 _ (HRz.out.sub (Nat.le_refl _) (by omega)) hn1 (by omega) HNK.out).mono ?_); rintro e w1 ⟨rfl, ho1, hk1⟩; have HO1 := Lib.hid ho1; have HK1 := Lib.hid hk1; clear ho1 hk1)
        | (go_at_call 44; (with_reducible refine (aput64_any N (ii + 8) _ _ _ _ 5 _ (HRz.out.put.sub (by omega) (by omega)) hn2 (by omega) HO1.out).mono ?_); rintro e w2 ⟨rfl, ho2, hk2⟩; have HO2 := Lib.hid ho2; have HK2 := Lib.hid hk2; clear ho2 hk2)
        | (go_at_call 29; (with_reducible refine (ga _).mono ?_); rintro e w3 ⟨rfl, hw3⟩; replace hw3 := hw3.symm; subst hw3))
      have HX2 : objAt w2 N = some (.cells (putL (putL Z 0 (ksL (ciph T ks) c 0 ii)) ii (bytesOf (ctrB (cadd c j)))) 5 (0, 0)) := by rw [HO2.out, HII.out, put_ctr]
      have hC2 := HC.out.below ((HBN.out.trans HK1.out.bel).trans HK2.out.bel) hBN
      have gE := Lib.hid (fun m => cEnc_any N ii (bs.length - ii) (128 - ii) N ii (bs.length - ii) (128 - ii) _ 5 (ctrB (cadd c j)) (w2.drewN m) (hC2.drewN m) (oa_drewN HX2 m) HRz.out.put hn3 (by omega) (by omega) (by omega) (rdL_obj (oa_drewN HX2 m) (BytesIn.put (by rw [bytesOf_length, putL_size]; have := HL.out; have := HZ.out; have := HII.out; omega))) hn3 (by omega))
      have HX3 := Lib.hid HX2
      clear HX2 hC2
      refine wp_region_chain (l := [_, _, _, _, _, _, _, _]) (fun _ => True) (fun w' => ∃ m, w' = w2.drewN m) (by kernel_rfl) (by kernel_rfl) ⟨1, rfl⟩ (fun _ _ => trivial) ?_
      iterate 7 (refine chain_val (v := ?_) (by rfl) ?_ ?_; rotate_left; (focus (intro w2 b2; (try obtain ⟨m2, rfl⟩ := b2); go_simp; (try with_reducible rfl); done)); simp only [Act.put, List.setIfInBounds_toArray, List.set_cons_zero, List.set_cons_succ])
      refine chain_call (fun w' => objAt w' N = some (.cells (putL Z 0 (ksL (ciph T ks) c 0 (16 * (j + 1)))) 5 (0, 0)) ∧ Keeps N w0 w') (v := .tuple #[]) (f := 38) (args := #[.pointer (some ⟨B, 0, none⟩), .slice (some ⟨N, ii, none⟩) (bs.length - ii) (128 - ii), .slice (some ⟨N, ii, none⟩) (bs.length - ii) (128 - ii)]) rfl (by rfl) (fun _ _ => trivial) (fun w2 b2 => (by go_simp; done))
        (fun w2 b2 => (by
          obtain ⟨m2, rfl⟩ := b2
          refine (gE.out m2).mono fun e w' he => ?_
          obtain ⟨he, ho, hk⟩ := he
          refine ⟨he, ?_, ((HK.out.trans HK1.out).trans (keeps_drewN HK2.out m2)).trans hk⟩
          rw [ho, HII.out, put_ks Z _ c j (by have := HL.out; have := HZ.out; omega)])) ?_
      simp only [Act.put, List.setIfInBounds_toArray, List.set_cons_zero, List.set_cons_succ]
      refine chain_nil fun w4 b4 => ?_
      obtain ⟨ho4, hk4⟩ := b4
      have HO4 := Lib.hid ho4
      have HK4 := Lib.hid hk4
      clear ho4 hk4
      go_wp2
      go_roundw
      case rel => exact ⟨j + 1, ii + 16, by omega, by have := HII.out; omega, by go_num, rfl, rfl, by rw [show ii + 16 = 16 * (j + 1) by have := HII.out; omega]; exact HO4.out, HK4.out⟩
      case measure => have := HII.out; simp [intOf]; omega
    · have hjq : j = q := by omega
      have hie : ii = bs.length := by have := HL.out; have := HII.out; omega
      have h1 : ¬ (ii : Int) < bs.length := by omega
      have hNl := oa_lt HNK.out
      have hX : objAt wr N = some (.cells (putL Z 0 (ksL (ciph T ks) c 0 bs.length)) 5 (0, 0)) := by rw [← hie]; exact HNK.out
      have gX := axor_any N 0 bs.length 128 S os bs.length sc N 0 bs.length 128 (putL Z 0 (ksL (ciph T ks) c 0 bs.length)) bs (ksL (ciph T ks) c 0 bs.length) 5 wr hX (hzr.put.sub (Nat.le_refl _) (by rw [Nat.min_self]; omega))
        (by rw [Nat.min_self]; have := HL.out; omega) (by rw [Nat.min_self]; exact Nat.le_refl _) (by omega) (by rw [Nat.min_self]; exact Nat.le_refl _) (by rw [Nat.min_self, ksL_length]; exact Nat.le_refl _)
        (fun i x hx => (cell_same (HBN.out.block S (by have := HN.out; omega)) _).trans (HS.out i x hx)) (rdL_obj hX (BytesIn.put (by rw [ksL_length]; have := HZ.out; omega))) (.inl (by have := HN.out; omega)) (.inr (.inl (Nat.le_refl _)))
      rw [Nat.min_self, putL_over _ _ _ _ (by rw [ksL_length, List.length_take, xorL_length, ksL_length]; omega) (by rw [ksL_length]; have := HZ.out; omega), List.take_of_length_le (by rw [xorL_length, ksL_length]; omega)] at gX
      have GX := Lib.hid gX
      clear gX hX hii hie
      go_wp2_with (go_at_call 42; (with_reducible refine GX.out.mono ?_); rintro e w5 ⟨rfl, ho5, hk5⟩; have HO5 := Lib.hid ho5; have HK5 := Lib.hid hk5; clear ho5 hk5)
      have hl : (xorL bs (ksL (ciph T ks) c 0 bs.length)).length = bs.length := by rw [xorL_length, ksL_length, Nat.min_self]
      have hD5 := HK5.out.at_ (oa_below HD.out HBN.out (by have := HN.out; omega)) (by have := HN.out; omega)
      have hrow : rowOf 0 (xorL bs (ksL (ciph T ks) c 0 bs.length)) (.slice (some ⟨N, 0, none⟩) bs.length 128) w5 := by
        have h := rowOf_obj (n0 := 0) (c := 128) HO5.out (BytesIn.put (by rw [hl]; have := HZ.out; omega)) (Nat.zero_le _) (by rw [hl]; have := HL.out; omega) (by decide)
        rwa [hl] at h
      have hcp := run_copyB w5 D od bs.length dc cs tD _ _ 3 hD5 hrow (HR.out.le (by have := HL.out; omega))
      rw [List.take_of_length_le (by rw [hl]; exact Nat.le_refl _)] at hcp
      have HKW := Lib.hid (((Keeps.refl D w).below hDl (Nat.le_refl _) (by rw [← HN.out]; exact HBN.out.trans HK5.out.bel)).row (putL cs od (xorL bs (ksL (ciph T ks) c 0 bs.length))))
      have HOW := Lib.hid (objAt_setRow_same hD5 (putL cs od (xorL bs (ksL (ciph T ks) c 0 bs.length))))
      clear hl hD5 hrow
      rw [hcp]
      go_wp2
      refine bodyPost_end (v := .tuple #[]) (by simp [results, Tryd.results40, go_sem]) rfl ⟨rfl, HOW.out, HKW.out⟩
end Go.Proofs.YtfcdldcekdbckaeDoor
