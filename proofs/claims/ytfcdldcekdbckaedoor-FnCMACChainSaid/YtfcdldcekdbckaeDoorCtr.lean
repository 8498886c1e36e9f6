/- Bytes encrypted in counter mode at an offset: the walk of XORKeyStreamAt. -/
import Derived.Test.YtfcdldcekdbckaeDoorCtrP
import Derived.Deep.DeepCutAuto
import Derived.Laws.Cover3
namespace Go.Proofs.YtfcdldcekdbckaeDoor
open Go Go.RowKit Gf

/-- Where the work stands: m bytes are left; p are done. -/
structure CtrS (E : BitVec 128 → BitVec 128) (c : BitVec 128) (off : Nat) (bs : List (BitVec 8)) (cs : Array Value) (tD : TypeId) (D od S os : Nat) (w : World) (p m d' dc' s' sc' : Nat) (c' : BitVec 128) (wx : World) : Prop where
  sum : p + m = bs.length
  dcap : m ≤ dc'
  scap : m ≤ sc'
  dmax : (dc' : Int) ≤ 9223372036854775807
  smax : (sc' : Int) ≤ 9223372036854775807
  pos : m = 0 ∨ (d' = od + p ∧ s' = os + p ∧ ∃ q, c' = cadd c q ∧ 16 * q = off + p)
  obj : objAt wx D = some (.cells (putL cs od ((ctrL E c off bs).take p)) tD (0, 0))
  keep : Keeps D w wx
def CtrI (E : BitVec 128 → BitVec 128) (c : BitVec 128) (off : Nat) (bs : List (BitVec 8)) (cs : Array Value) (tD : TypeId) (D od S os : Nat) (w : World) (lim : Nat) (s1 s2 s8 s9 : Value) (wx : World) : Prop :=
  ∃ p m d' dc' s' sc' c', s1 = .slice (some ⟨D, d', none⟩) m dc' ∧ s2 = .slice (some ⟨S, s', none⟩) m sc' ∧ s8 = .int .u64 (n64 (loOf c')) ∧ s9 = .int .u64 (n64 (hiOf c')) ∧ m < lim ∧ CtrS E c off bs cs tD D od S os w p m d' dc' s' sc' c' wx

section
variable {E : BitVec 128 → BitVec 128} {c c' : BitVec 128} {off : Nat} {bs : List (BitVec 8)} {cs : Array Value} {tD : TypeId} {D od S os p m d' dc' s' sc' : Nat} {w wx : World}
theorem CtrS.room (h : CtrS E c off bs cs tD D od S os w p m d' dc' s' sc' c' wx) (hr : ByteRoom cs od bs.length) (K : Nat) (hK : K ≤ m) (h0 : 0 < K) : ByteRoom (putL cs od ((ctrL E c off bs).take p)) d' K := by
  obtain ⟨e1, _⟩ := h.pos.resolve_left (by omega)
  have := h.sum
  exact hr.put.sub (by omega) (by omega)
theorem CtrS.rd (h : CtrS E c off bs cs tD D od S os w p m d' dc' s' sc' c' wx) (hS : RdL w S os bs) (hSl : S < w.heap.size) (hSD : S ≠ D) (K : Nat) (hK : K ≤ m) (h0 : 0 < K) : RdL wx S s' ((bs.drop p).take K) := fun i x hx => by
  obtain ⟨_, e2, _⟩ := h.pos.resolve_left (by omega)
  have hi : i < K := by have := (List.getElem?_eq_some_iff.1 hx).1; rw [List.length_take] at this; omega
  rw [List.getElem?_take, if_pos hi, List.getElem?_drop] at hx
  rw [h.keep.cell hSl hSD, e2, Nat.add_assoc]
  exact hS _ _ hx
theorem CtrS.len (h : CtrS E c off bs cs tD D od S os w p m d' dc' s' sc' c' wx) (K : Nat) (hK : K ≤ m) : ((bs.drop p).take K).length = K := by
  have := h.sum
  rw [List.length_take, List.length_drop]; omega
theorem CtrS.step (h : CtrS E c off bs cs tD D od S os w p m d' dc' s' sc' c' wx) (K k : Nat) (hk : K = 16 * k) (hK : K ≤ m) (h0 : 0 < K) {wy : World} {d2 s2 : Nat}
    (ho : objAt wy D = some (.cells (putL (putL cs od ((ctrL E c off bs).take p)) d' (xorL ((bs.drop p).take K) (ksL E c' 0 K))) tD (0, 0))) (hkp : Keeps D wx wy) (hd2 : m - K = 0 ∨ d2 = d' + K) (hs2 : m - K = 0 ∨ s2 = s' + K) :
    CtrS E c off bs cs tD D od S os w (p + K) (m - K) d2 (dc' - K) s2 (sc' - K) (cadd c' k) wy := by
  obtain ⟨e1, e2, q, e3, e4⟩ := h.pos.resolve_left (by omega)
  have hs := h.sum
  have h1 := h.dcap
  have h2 := h.scap
  have h3 := h.dmax
  have h4 := h.smax
  refine ⟨by omega, by omega, by omega, by omega, by omega, ?_, ?_, h.keep.trans hkp⟩
  · by_cases hz : m - K = 0
    · exact .inl hz
    · exact .inr ⟨by have := hd2.resolve_left hz; omega, by have := hs2.resolve_left hz; omega, q + k, by rw [e3, cadd_add], by omega⟩
  · rw [ho, e3, e1, ctrL_piece E c off p K q bs (by omega) e4, put_piece _ _ _ _ _ (by rw [ctrL_length]; omega)]
end
def lenV : Value → Nat
  | .slice _ n _ => n
  | _ => 0

set_option maxRecDepth 100000 in
set_option maxHeartbeats 8000000 in
theorem xksAt_any (T : Tab) (ks : List (BitVec 8)) (C D od dc S os sc off : Nat) (cs : Array Value) (bs : List (BitVec 8)) (tD : TypeId) (c : BitVec 128) (w : World) (hC : CiphAt T ks w C)
    (hlo : w.cell? ⟨C, 121, none⟩ = some (.int .u64 (n64 (loOf c)))) (hhi : w.cell? ⟨C, 122, none⟩ = some (.int .u64 (n64 (hiOf c)))) (hCD : C ≠ D) (hSD : S ≠ D) (hG : nG ≤ D) (hpos : 0 < bs.length)
    (hD : objAt w D = some (.cells cs tD (0, 0))) (hroom : ByteRoom cs od bs.length) (hdc : bs.length ≤ dc) (hdc2 : (dc : Int) ≤ 9223372036854775807) (hS : RdL w S os bs) (hsc : bs.length ≤ sc) (hsc2 : (sc : Int) ≤ 9223372036854775807) (hoff : off < 9223372036854775808) :
    Calls Tryd.prog 21 #[.pointer (some ⟨C, 0, none⟩), .slice (some ⟨D, od, none⟩) bs.length dc, .slice (some ⟨S, os, none⟩) bs.length sc, .int .u64 (off : Int)] w
      fun e w' => e = .returned (.tuple #[]) ∧ objAt w' D = some (.cells (putL cs od (ctrL (ciph T ks) c off bs)) tD (0, 0)) ∧ Keeps D w w' := by
  have hSl : S < w.heap.size := block_lt_of_cell (hS 0 _ (List.getElem?_eq_getElem hpos))
  have hDl := oa_lt hD
  have HC := Lib.hid hC
  have HD := Lib.hid hD
  have HR := Lib.hid hroom
  have HS := Lib.hid hS
  obtain ⟨q0, hq0⟩ : ∃ q0, q0 = off / 16 := ⟨_, rfl⟩
  obtain ⟨bo, hbo⟩ : ∃ bo, bo = off % 16 := ⟨_, rfl⟩
  have e1 : (off : Int) / 16 = (q0 : Int) := by omega
  have e2 : (off : Int).tdiv 16 = (q0 : Int) := by rw [Int.tdiv_eq_ediv_of_nonneg (by omega)]; exact e1
  have e3 : (off : Int) % 16 = (bo : Int) := by omega
  have e4 : (off : Int).tmod 16 = (bo : Int) := by rw [Int.tmod_eq_emod_of_nonneg (by omega)]; exact e3
  have ga := addc_any c q0 (by omega)
  have HQ := Lib.hid hq0
  have HBO := Lib.hid hbo
  have gx : ∀ (k : Nat), k < 10 → ∀ (c' : BitVec 128) (w : World), Calls Tryd.prog 29 #[.int .u64 (n64 (loOf c')), .int .u64 (n64 (hiOf c')), .int .u64 (k : Int)] w fun e w' => e = .returned (.tuple #[.int .u64 (n64 (loOf (cadd c' k))), .int .u64 (n64 (hiOf (cadd c' k)))]) ∧ w' = w := fun k hk c' w => addc_any c' k (by omega) w
  have GX := Lib.hid gx
  have hf : decide (bs.length < bs.length) = false := by simp
  clear hC hD hroom hS hq0 hbo gx
  go_enter Tryd.func21, Tryd.ntmps21
  go_wp2_with (fail)
  go_quiet ((go_at_call 29; exact Calls.quiet_of_same (ga _)))
  clear e1 e2 ga hlo hhi
  go_upto_if 43 with (fail)
  go_cut [1, 2, 8, 9] (fun s1 s2 s8 s9 wx => CtrI (ciph T ks) c off bs cs tD D od S os w (bs.length + 1) s1 s2 s8 s9 wx)
  case first =>
    by_cases hb : bo = 0
    · have hb1 : ((bo : Int) != 0) = false := by simp [hb]
      go_wp2_with (fail)
      go_meet
      case rel =>
        exact ⟨0, bs.length, od, dc, os, sc, cadd c q0, rfl, rfl, rfl, rfl, by omega, ⟨by omega, hdc, hsc, hdc2, hsc2, .inr ⟨rfl, rfl, q0, rfl, by have := HQ.out; have := HBO.out; omega⟩, oa_drewN HD.out _, keeps_drewN (Keeps.refl D w) _⟩⟩
    · have hb1 : ((bo : Int) != 0) = true := by simp [hb]
      have hb2 : bo < 16 := by have := HBO.out; omega
      have hb3 : (bo : Int) ≤ 16 := by omega
      have hb4 : ¬ 16 = bo := by omega
      obtain ⟨k1, hk1⟩ : ∃ k1, k1 = min (16 - bo) bs.length := ⟨_, rfl⟩
      have l1 : (bs.take (16 - bo)).length = k1 := by rw [List.length_take, hk1]
      have k2 : bo + k1 ≤ 16 := by omega
      have k3 : k1 ≤ bs.length := by omega
      have i0 : objAt (((w.alloc (.cells (blk 0#128) 23)).alloc (.cells (blk 0#128) 23)).drewN nq) w.heap.size = some (.cells (blk 0#128) 23 (0, 0)) := by simp [go_sem]
      have o0 : objAt (((w.alloc (.cells (blk 0#128) 23)).alloc (.cells (blk 0#128) 23)).drewN nq) (w.heap.size + 1) = some (.cells (blk 0#128) 23 (0, 0)) := by simp [go_sem]
      have hrowS : rowOf 0 bs (.slice (some ⟨S, os, none⟩) bs.length sc) (((w.alloc (.cells (blk 0#128) 23)).alloc (.cells (blk 0#128) 23)).drewN nq) :=
        ⟨_, sc, rfl, hsc, hsc2, .inr ⟨S, os, rfl, Nat.zero_le _, by simp; omega, fun i x hx => (cell_same ((bel_drewN (((Below.refl w.heap.size w).alloc (Nat.le_refl _) _).alloc (by simp) _) nq : Below w.heap.size w (((w.alloc (.cells (blk 0#128) 23)).alloc (.cells (blk 0#128) 23)).drewN nq)).block S hSl) _).trans (HS.out i x hx)⟩⟩
      have hcp := run_copyB _ w.heap.size bo (16 - bo) (16 - bo) _ _ _ _ 3 i0 hrowS (by rw [blk_size]; omega)
      have b0 : Below w.heap.size w (((w.alloc (.cells (bcells (amid bo (bs.take (16 - bo)))).toArray 23)).alloc (.cells (blk 0#128) 23)).drewN nq) := bel_drewN (((Below.refl w.heap.size w).alloc (Nat.le_refl _) _).alloc (by simp) _) nq
      have i1 : objAt (((w.alloc (.cells (bcells (amid bo (bs.take (16 - bo)))).toArray 23)).alloc (.cells (blk 0#128) 23)).drewN nq) w.heap.size = some (.cells (bcells (amid bo (bs.take (16 - bo)))).toArray 23 (0, 0)) := by simp [go_sem]
      have o1 : objAt (((w.alloc (.cells (bcells (amid bo (bs.take (16 - bo)))).toArray 23)).alloc (.cells (blk 0#128) 23)).drewN nq) (w.heap.size + 1) = some (.cells (blk 0#128) 23 (0, 0)) := by simp [go_sem]
      rw [blk_zero16, put_amid _ _ (by rw [l1]; exact k2), ← blk_zero16] at hcp
      rw [show min bs.length (16 - bo) = k1 by omega] at hcp
      have HM1 := Lib.hid hk1
      have HL1 := Lib.hid l1
      clear hk1 l1
      go_wp2_with (fail)
      generalize ((w.alloc (.cells (bcells (amid bo (bs.take (16 - bo)))).toArray 23)).alloc (.cells (blk 0#128) 23)).drewN nq = w1 at *
      have hC1 : CiphAt T ks w1 C := HC.out.below b0 HC.out.lt
      have gc := ctr1_any T ks C (w.heap.size + 1) 0 w.heap.size 0 (blk 0#128) (amid bo (bs.take (16 - bo))) 23 (cadd c q0) w1 hC1 (amid_length _ _ (by rw [HL1.out]; exact k2)) o1 (by rw [blk_bcells]; exact ⟨_, bytesOf_length _, bytesIn_all _⟩) (rdL_obj i1 (bytesIn_all _))
      have B0 := Lib.hid b0
      clear hcp i0 o0 i1 o1 hrowS hC1 b0
      go_wp2_with (go_at_call 30; (with_reducible refine gc.mono ?_); rintro e w2 ⟨rfl, ho2, hk2⟩; have HO2 := Lib.hid ho2; have HK2 := Lib.hid hk2; clear ho2 hk2)
      have hD2 := HK2.out.at_ (oa_below HD.out B0.out hDl) (by omega)
      have hxl : ((xorL (amid bo (bs.take (16 - bo))) (ksL (ciph T ks) (cadd c q0) 0 16)).drop bo).length = 16 - bo := by rw [List.length_drop, xorL_length, ksL_length, amid_length _ _ (by rw [HL1.out]; exact k2)]; rfl
      have hrow2 : rowOf 0 ((xorL (amid bo (bs.take (16 - bo))) (ksL (ciph T ks) (cadd c q0) 0 16)).drop bo) (.slice (some ⟨w.heap.size + 1, bo, none⟩) (16 - bo) (16 - bo)) w2 := by
        have h := rowOf_obj (n0 := 0) (c := 16 - bo) HO2.out (bs := (xorL (amid bo (bs.take (16 - bo))) (ksL (ciph T ks) (cadd c q0) 0 16)).drop bo) (o := bo) (fun i x hx => by
          rw [List.getElem?_drop] at hx
          have := putL_in (blk 0#128) 0 _ _ _ hx (by rw [xorL_length, ksL_length, amid_length _ _ (by rw [HL1.out]; exact k2), blk_size]; decide)
          rwa [Nat.zero_add] at this) (Nat.zero_le _) (by rw [hxl]; exact Nat.le_refl _) (by omega)
        rwa [hxl] at h
      have hcp2 := run_copyB w2 D od bs.length dc cs tD _ _ 3 hD2 hrow2 (HR.out.le hpos)
      have hres : (((xorL (amid bo (bs.take (16 - bo))) (ksL (ciph T ks) (cadd c q0) 0 16)).drop bo).take bs.length) = (ctrL (ciph T ks) c off bs).take k1 := by
        have h1 := part_block (ciph T ks) (cadd c q0) bo (bs.take (16 - bo)) (by rw [HL1.out]; exact k2)
        have h2 := ctrL_part (ciph T ks) c off 0 k1 q0 bo bs (by omega) (by have := HQ.out; have := HBO.out; omega)
        rw [take_min, hxl, show min bs.length (16 - bo) = k1 by have := HM1.out; omega, ← HL1.out, h1, HL1.out]
        rw [List.drop_zero, List.drop_zero] at h2
        rw [← h2, take_min bs (16 - bo), ← HM1.out]
      rw [hres, hxl, ← HM1.out] at hcp2
      have HO3 := Lib.hid (objAt_setRow_same hD2 (putL cs od ((ctrL (ciph T ks) c off bs).take k1)))
      have HK3 := Lib.hid (((Keeps.refl D w).below hDl (Nat.le_refl _) (B0.out.trans (HK2.out.bel.mono (by omega)))).row (putL cs od ((ctrL (ciph T ks) c off bs).take k1)))
      clear hres hxl hrow2 hD2
      rw [hcp2]
      obtain ⟨s2, hs2, ps2⟩ := if_addr S os k1 sc bs.length k3 hsc
      obtain ⟨d2, hd2, pd2⟩ := if_addr D od k1 dc bs.length k3 hdc
      have k4 : (k1 : Int) ≤ bs.length := by omega
      have g1 := GX.out 1 (by decide) (cadd c q0)
      rw [cadd_add] at g1
      have G1 : ∀ w : World, Calls Tryd.prog 29 #[.int .u64 (n64 (loOf (cadd c q0))), .int .u64 (n64 (hiOf (cadd c q0))), .int .u64 1] w fun e w' => e = .returned (.tuple #[.int .u64 (n64 (loOf (cadd c (q0 + 1)))), .int .u64 (n64 (hiOf (cadd c (q0 + 1))))]) ∧ w' = w := g1
      clear g1
      go_wp2_with (go_at_call 29; (with_reducible refine (G1 _).mono ?_); rintro e w3 ⟨rfl, hw3⟩; replace hw3 := hw3.symm; subst hw3)
      go_meet
      case rel =>
        exact ⟨k1, bs.length - k1, d2, dc - k1, s2, sc - k1, cadd c (q0 + 1), rfl, rfl, rfl, rfl, by omega, ⟨by omega, by omega, by omega, by omega, by omega, by
          by_cases h : bs.length - k1 = 0
          · exact .inl h
          · exact .inr ⟨pd2.resolve_left h, ps2.resolve_left h, q0 + 1, rfl, by have := HQ.out; have := HBO.out; have := HM1.out; omega⟩, HO3.out, HK3.out⟩⟩
  case rest =>
    clear e3 e4
    obtain ⟨p, m, d', dc', s', sc', c', rfl, rfl, rfl, rfl, hm, hs⟩ := hcut
    have HST := Lib.hid hs
    clear hs
    go_wp2_with (fail)
    go_loopw [1, 2, 8, 9] (fun s1 s2 s8 s9 wx => CtrI (ciph T ks) c off bs cs tD D od S os w (bs.length + 1) s1 s2 s8 s9 wx) (fun _ s2 _ _ _ => lenV s2)
    case atStart => exact ⟨p, m, d', dc', s', sc', c', rfl, rfl, rfl, rfl, hm, HST.out⟩
    case round =>
      clear HST hm
      obtain ⟨p, m, d', dc', s', sc', c', rfl, rfl, rfl, rfl, hm, hs⟩ := hrel
      have HST := Lib.hid hs
      by_cases hK : 128 ≤ m
      · have hK' : (128 : Int) ≤ m := by omega
        have ha1 : ∀ w : World, (Instr.arrayAt 113 (.slice (some ⟨D, d', none⟩) m dc')).run Tryd.prog w = .ok (.pointer (some ⟨D, d', none⟩)) w := fun w => run_arrayAt w _ _ 128 _ _ _ Tryd.underlying113 hK
        have ha2 : ∀ w : World, (Instr.arrayAt 113 (.slice (some ⟨S, s', none⟩) m sc')).run Tryd.prog w = .ok (.pointer (some ⟨S, s', none⟩)) w := fun w => run_arrayAt w _ _ 128 _ _ _ Tryd.underlying113 hK
        obtain ⟨s2, hs2, ps2⟩ := if_addr S s' 128 sc' m hK hs.scap
        obtain ⟨d2, hd2, pd2⟩ := if_addr D d' 128 dc' m hK hs.dcap
        have gc := fun n => ctr8_any T ks C D d' S s' _ ((bs.drop p).take 128) tD c' (wr.drewN n) ((HC.out.keeps hs.keep hCD hG).drewN n) (hs.len 128 hK) (oa_drewN hs.obj n) (hs.room HR.out 128 hK (by decide)) (hs.rd HS.out hSl hSD 128 hK (by decide))
        have GC := Lib.hid gc
        have g8 := GX.out 8 (by decide) c'
        have G8 : ∀ w : World, Calls Tryd.prog 29 #[.int .u64 (n64 (loOf c')), .int .u64 (n64 (hiOf c')), .int .u64 8] w fun e w' => e = .returned (.tuple #[.int .u64 (n64 (loOf (cadd c' 8))), .int .u64 (n64 (hiOf (cadd c' 8)))]) ∧ w' = w := g8
        clear gc hs g8
        go_wp2_with (fail)
        refine wp_region_chain (l := [_, _, _, _, _, _, _, _, _, _]) (fun _ => True) (fun w' => ∃ m, w' = wr.drewN m) (by kernel_rfl) (by kernel_rfl) ⟨1, rfl⟩ (fun _ _ => trivial) ?_
        iterate 9 (refine chain_val (v := ?_) (by rfl) ?_ ?_; rotate_left; (focus (intro w2 b2; (try obtain ⟨m2, rfl⟩ := b2); go_simp; (try with_reducible rfl); done)); simp only [Act.put, List.setIfInBounds_toArray, List.set_cons_zero, List.set_cons_succ])
        clear ha1 ha2
        refine chain_call (fun w' => objAt w' D = some (.cells (putL (putL cs od ((ctrL (ciph T ks) c off bs).take p)) d' (xorL ((bs.drop p).take 128) (ksL (ciph T ks) c' 0 128))) tD (0, 0)) ∧ Keeps D wr w') (v := .tuple #[]) (f := 31)
          (args := #[.pointer (some ⟨C, 0, none⟩), .pointer (some ⟨D, d', none⟩), .pointer (some ⟨S, s', none⟩), .int .u64 (n64 (loOf c')), .int .u64 (n64 (hiOf c'))]) rfl (by rfl) (fun _ _ => trivial) (fun w2 b2 => (by go_simp; done))
          (fun w2 b2 => (by
            obtain ⟨m2, rfl⟩ := b2
            refine (GC.out m2).mono fun e w' he => ?_
            obtain ⟨he, ho, hk⟩ := he
            exact ⟨he, ho, (keeps_drewN (Keeps.refl D wr) m2).trans hk⟩)) ?_
        simp only [Act.put, List.setIfInBounds_toArray, List.set_cons_zero, List.set_cons_succ]
        refine chain_nil fun w4 b4 => ?_
        obtain ⟨ho4, hk4⟩ := b4
        have HO4 := Lib.hid ho4
        have HK4 := Lib.hid hk4
        clear ho4 hk4
        go_wp2_with (go_at_call 29; (with_reducible refine (G8 _).mono ?_); rintro e w3 ⟨rfl, hw3⟩; replace hw3 := hw3.symm; subst hw3)
        go_roundw
        case rel => exact ⟨p + 128, m - 128, d2, dc' - 128, s2, sc' - 128, cadd c' 8, rfl, rfl, rfl, rfl, by omega, HST.out.step 128 8 rfl hK (by decide) HO4.out HK4.out pd2 ps2⟩
        case measure => simp [lenV]; omega
      · have hK' : ¬ (128 : Int) ≤ m := by omega
        clear hs
        go_upto_if 95 with (fail)
        go_cut [1, 2, 8, 9] (fun s1 s2 s8 s9 wx => CtrI (ciph T ks) c off bs cs tD D od S os w 64 s1 s2 s8 s9 wx)
        case first =>
          have hs := HST.out
          by_cases hK : 64 ≤ m
          · have hK' : (64 : Int) ≤ m := by omega
            have ha1 : ∀ w : World, (Instr.arrayAt 114 (.slice (some ⟨D, d', none⟩) m dc')).run Tryd.prog w = .ok (.pointer (some ⟨D, d', none⟩)) w := fun w => run_arrayAt w _ _ 64 _ _ _ Tryd.underlying114 hK
            have ha2 : ∀ w : World, (Instr.arrayAt 114 (.slice (some ⟨S, s', none⟩) m sc')).run Tryd.prog w = .ok (.pointer (some ⟨S, s', none⟩)) w := fun w => run_arrayAt w _ _ 64 _ _ _ Tryd.underlying114 hK
            obtain ⟨s2, hs2, ps2⟩ := if_addr S s' 64 sc' m hK hs.scap
            obtain ⟨d2, hd2, pd2⟩ := if_addr D d' 64 dc' m hK hs.dcap
            have gc := fun n => ctr4_any T ks C D d' S s' _ ((bs.drop p).take 64) tD c' (wr.drewN n) ((HC.out.keeps hs.keep hCD hG).drewN n) (hs.len 64 hK) (oa_drewN hs.obj n) (hs.room HR.out 64 hK (by decide)) (hs.rd HS.out hSl hSD 64 hK (by decide))
            have GC := Lib.hid gc
            have g8 := GX.out 4 (by decide) c'
            have G8 : ∀ w : World, Calls Tryd.prog 29 #[.int .u64 (n64 (loOf c')), .int .u64 (n64 (hiOf c')), .int .u64 4] w fun e w' => e = .returned (.tuple #[.int .u64 (n64 (loOf (cadd c' 4))), .int .u64 (n64 (hiOf (cadd c' 4)))]) ∧ w' = w := g8
            clear gc hs g8
            go_wp2_with (fail)
            refine wp_region_chain (l := [_, _, _, _, _, _, _, _, _, _]) (fun _ => True) (fun w' => ∃ m, w' = wr.drewN m) (by kernel_rfl) (by kernel_rfl) ⟨1, rfl⟩ (fun _ _ => trivial) ?_
            iterate 9 (refine chain_val (v := ?_) (by rfl) ?_ ?_; rotate_left; (focus (intro w2 b2; (try obtain ⟨m2, rfl⟩ := b2); go_simp; (try with_reducible rfl); done)); simp only [Act.put, List.setIfInBounds_toArray, List.set_cons_zero, List.set_cons_succ])
            clear ha1 ha2
            refine chain_call (fun w' => objAt w' D = some (.cells (putL (putL cs od ((ctrL (ciph T ks) c off bs).take p)) d' (xorL ((bs.drop p).take 64) (ksL (ciph T ks) c' 0 64))) tD (0, 0)) ∧ Keeps D wr w') (v := .tuple #[]) (f := 32)
              (args := #[.pointer (some ⟨C, 0, none⟩), .pointer (some ⟨D, d', none⟩), .pointer (some ⟨S, s', none⟩), .int .u64 (n64 (loOf c')), .int .u64 (n64 (hiOf c'))]) rfl (by rfl) (fun _ _ => trivial) (fun w2 b2 => (by go_simp; done))
              (fun w2 b2 => (by
                obtain ⟨m2, rfl⟩ := b2
                refine (GC.out m2).mono fun e w' he => ?_
                obtain ⟨he, ho, hk⟩ := he
                exact ⟨he, ho, (keeps_drewN (Keeps.refl D wr) m2).trans hk⟩)) ?_
            simp only [Act.put, List.setIfInBounds_toArray, List.set_cons_zero, List.set_cons_succ]
            refine chain_nil fun w4 b4 => ?_
            obtain ⟨ho4, hk4⟩ := b4
            have HO4 := Lib.hid ho4
            have HK4 := Lib.hid hk4
            clear ho4 hk4
            go_wp2_with (go_at_call 29; (with_reducible refine (G8 _).mono ?_); rintro e w3 ⟨rfl, hw3⟩; replace hw3 := hw3.symm; subst hw3)
            go_meet
            case rel => exact ⟨p + 64, m - 64, d2, dc' - 64, s2, sc' - 64, cadd c' 4, rfl, rfl, rfl, rfl, by omega, HST.out.step 64 4 rfl hK (by decide) HO4.out HK4.out pd2 ps2⟩
          · have hK' : ¬ (64 : Int) ≤ m := by omega
            clear hs
            go_wp2_with (fail)
            go_meet
            case rel => exact ⟨p, m, d', dc', s', sc', c', rfl, rfl, rfl, rfl, by omega, HST.out⟩
        case rest =>
          clear HST hm
          obtain ⟨p, m, d', dc', s', sc', c', rfl, rfl, rfl, rfl, hm, hs⟩ := hcut
          have HST := Lib.hid hs
          clear hs
          go_upto_if 118 with (fail)
          go_cut [1, 2, 8, 9] (fun s1 s2 s8 s9 wx => CtrI (ciph T ks) c off bs cs tD D od S os w 32 s1 s2 s8 s9 wx)
          case first =>
            have hs := HST.out
            by_cases hK : 32 ≤ m
            · have hK' : (32 : Int) ≤ m := by omega
              have ha1 : ∀ w : World, (Instr.arrayAt 115 (.slice (some ⟨D, d', none⟩) m dc')).run Tryd.prog w = .ok (.pointer (some ⟨D, d', none⟩)) w := fun w => run_arrayAt w _ _ 32 _ _ _ Tryd.underlying115 hK
              have ha2 : ∀ w : World, (Instr.arrayAt 115 (.slice (some ⟨S, s', none⟩) m sc')).run Tryd.prog w = .ok (.pointer (some ⟨S, s', none⟩)) w := fun w => run_arrayAt w _ _ 32 _ _ _ Tryd.underlying115 hK
              obtain ⟨s2, hs2, ps2⟩ := if_addr S s' 32 sc' m hK hs.scap
              obtain ⟨d2, hd2, pd2⟩ := if_addr D d' 32 dc' m hK hs.dcap
              have gc := fun n => ctr2_any T ks C D d' S s' _ ((bs.drop p).take 32) tD c' (wc.drewN n) ((HC.out.keeps hs.keep hCD hG).drewN n) (hs.len 32 hK) (oa_drewN hs.obj n) (hs.room HR.out 32 hK (by decide)) (hs.rd HS.out hSl hSD 32 hK (by decide))
              have GC := Lib.hid gc
              have g8 := GX.out 2 (by decide) c'
              have G8 : ∀ w : World, Calls Tryd.prog 29 #[.int .u64 (n64 (loOf c')), .int .u64 (n64 (hiOf c')), .int .u64 2] w fun e w' => e = .returned (.tuple #[.int .u64 (n64 (loOf (cadd c' 2))), .int .u64 (n64 (hiOf (cadd c' 2)))]) ∧ w' = w := g8
              clear gc hs g8
              go_wp2_with (fail)
              refine wp_region_chain (l := [_, _, _, _, _, _, _, _, _, _]) (fun _ => True) (fun w' => ∃ m, w' = wc.drewN m) (by kernel_rfl) (by kernel_rfl) ⟨1, rfl⟩ (fun _ _ => trivial) ?_
              iterate 9 (refine chain_val (v := ?_) (by rfl) ?_ ?_; rotate_left; (focus (intro w2 b2; (try obtain ⟨m2, rfl⟩ := b2); go_simp; (try with_reducible rfl); done)); simp only [Act.put, List.setIfInBounds_toArray, List.set_cons_zero, List.set_cons_succ])
              clear ha1 ha2
              refine chain_call (fun w' => objAt w' D = some (.cells (putL (putL cs od ((ctrL (ciph T ks) c off bs).take p)) d' (xorL ((bs.drop p).take 32) (ksL (ciph T ks) c' 0 32))) tD (0, 0)) ∧ Keeps D wc w') (v := .tuple #[]) (f := 33)
                (args := #[.pointer (some ⟨C, 0, none⟩), .pointer (some ⟨D, d', none⟩), .pointer (some ⟨S, s', none⟩), .int .u64 (n64 (loOf c')), .int .u64 (n64 (hiOf c'))]) rfl (by rfl) (fun _ _ => trivial) (fun w2 b2 => (by go_simp; done))
                (fun w2 b2 => (by
                  obtain ⟨m2, rfl⟩ := b2
                  refine (GC.out m2).mono fun e w' he => ?_
                  obtain ⟨he, ho, hk⟩ := he
                  exact ⟨he, ho, (keeps_drewN (Keeps.refl D wc) m2).trans hk⟩)) ?_
              simp only [Act.put, List.setIfInBounds_toArray, List.set_cons_zero, List.set_cons_succ]
              refine chain_nil fun w4 b4 => ?_
              obtain ⟨ho4, hk4⟩ := b4
              have HO4 := Lib.hid ho4
              have HK4 := Lib.hid hk4
              clear ho4 hk4
              go_wp2_with (go_at_call 29; (with_reducible refine (G8 _).mono ?_); rintro e w3 ⟨rfl, hw3⟩; replace hw3 := hw3.symm; subst hw3)
              go_meet
              case rel => exact ⟨p + 32, m - 32, d2, dc' - 32, s2, sc' - 32, cadd c' 2, rfl, rfl, rfl, rfl, by omega, HST.out.step 32 2 rfl hK (by decide) HO4.out HK4.out pd2 ps2⟩
            · have hK' : ¬ (32 : Int) ≤ m := by omega
              clear hs
              go_wp2_with (fail)
              go_meet
              case rel => exact ⟨p, m, d', dc', s', sc', c', rfl, rfl, rfl, rfl, by omega, HST.out⟩
          case rest =>
            clear HST hm
            obtain ⟨p, m, d', dc', s', sc', c', rfl, rfl, rfl, rfl, hm, hs⟩ := hcut
            have HST := Lib.hid hs
            clear hs
            go_upto_if 141 with (fail)
            go_cut [1, 2, 8, 9] (fun s1 s2 s8 s9 wx => CtrI (ciph T ks) c off bs cs tD D od S os w 16 s1 s2 s8 s9 wx)
            case first =>
              have hs := HST.out
              by_cases hK : 16 ≤ m
              · have hK' : (16 : Int) ≤ m := by omega
                have ha1 : ∀ w : World, (Instr.arrayAt 23 (.slice (some ⟨D, d', none⟩) m dc')).run Tryd.prog w = .ok (.pointer (some ⟨D, d', none⟩)) w := fun w => run_arrayAt w _ _ 16 _ _ _ Tryd.underlying23 hK
                have ha2 : ∀ w : World, (Instr.arrayAt 23 (.slice (some ⟨S, s', none⟩) m sc')).run Tryd.prog w = .ok (.pointer (some ⟨S, s', none⟩)) w := fun w => run_arrayAt w _ _ 16 _ _ _ Tryd.underlying23 hK
                obtain ⟨s2, hs2, ps2⟩ := if_addr S s' 16 sc' m hK hs.scap
                obtain ⟨d2, hd2, pd2⟩ := if_addr D d' 16 dc' m hK hs.dcap
                have gc := fun n => ctr1_any T ks C D d' S s' _ ((bs.drop p).take 16) tD c' (wc.drewN n) ((HC.out.keeps hs.keep hCD hG).drewN n) (hs.len 16 hK) (oa_drewN hs.obj n) (hs.room HR.out 16 hK (by decide)) (hs.rd HS.out hSl hSD 16 hK (by decide))
                have GC := Lib.hid gc
                have g8 := GX.out 1 (by decide) c'
                have G8 : ∀ w : World, Calls Tryd.prog 29 #[.int .u64 (n64 (loOf c')), .int .u64 (n64 (hiOf c')), .int .u64 1] w fun e w' => e = .returned (.tuple #[.int .u64 (n64 (loOf (cadd c' 1))), .int .u64 (n64 (hiOf (cadd c' 1)))]) ∧ w' = w := g8
                clear gc hs g8
                go_wp2_with (fail)
                refine wp_region_chain (l := [_, _, _, _, _, _, _, _, _, _]) (fun _ => True) (fun w' => ∃ m, w' = wc.drewN m) (by kernel_rfl) (by kernel_rfl) ⟨1, rfl⟩ (fun _ _ => trivial) ?_
                iterate 9 (refine chain_val (v := ?_) (by rfl) ?_ ?_; rotate_left; (focus (intro w2 b2; (try obtain ⟨m2, rfl⟩ := b2); go_simp; (try with_reducible rfl); done)); simp only [Act.put, List.setIfInBounds_toArray, List.set_cons_zero, List.set_cons_succ])
                clear ha1 ha2
                refine chain_call (fun w' => objAt w' D = some (.cells (putL (putL cs od ((ctrL (ciph T ks) c off bs).take p)) d' (xorL ((bs.drop p).take 16) (ksL (ciph T ks) c' 0 16))) tD (0, 0)) ∧ Keeps D wc w') (v := .tuple #[]) (f := 30)
                  (args := #[.pointer (some ⟨C, 0, none⟩), .pointer (some ⟨D, d', none⟩), .pointer (some ⟨S, s', none⟩), .int .u64 (n64 (loOf c')), .int .u64 (n64 (hiOf c'))]) rfl (by rfl) (fun _ _ => trivial) (fun w2 b2 => (by go_simp; done))
                  (fun w2 b2 => (by
                    obtain ⟨m2, rfl⟩ := b2
                    refine (GC.out m2).mono fun e w' he => ?_
                    obtain ⟨he, ho, hk⟩ := he
                    exact ⟨he, ho, (keeps_drewN (Keeps.refl D wc) m2).trans hk⟩)) ?_
                simp only [Act.put, List.setIfInBounds_toArray, List.set_cons_zero, List.set_cons_succ]
                refine chain_nil fun w4 b4 => ?_
                obtain ⟨ho4, hk4⟩ := b4
                have HO4 := Lib.hid ho4
                have HK4 := Lib.hid hk4
                clear ho4 hk4
                go_wp2_with (go_at_call 29; (with_reducible refine (G8 _).mono ?_); rintro e w3 ⟨rfl, hw3⟩; replace hw3 := hw3.symm; subst hw3)
                go_meet
                case rel => exact ⟨p + 16, m - 16, d2, dc' - 16, s2, sc' - 16, cadd c' 1, rfl, rfl, rfl, rfl, by omega, HST.out.step 16 1 rfl hK (by decide) HO4.out HK4.out pd2 ps2⟩
              · have hK' : ¬ (16 : Int) ≤ m := by omega
                clear hs
                go_wp2_with (fail)
                go_meet
                case rel => exact ⟨p, m, d', dc', s', sc', c', rfl, rfl, rfl, rfl, by omega, HST.out⟩
            case rest =>
              clear HST hm
              obtain ⟨p, m, d', dc', s', sc', c', rfl, rfl, rfl, rfl, hm, hs⟩ := hcut
              have HST := Lib.hid hs
              clear hs
              by_cases hz : m = 0
              · subst hz
                go_wp2
                have hp : p = bs.length := by have := HST.out.sum; omega
                have ho := HST.out.obj
                rw [List.take_of_length_le (by rw [ctrL_length]; omega)] at ho
                exact bodyPost_end (v := .tuple #[]) (by simp [results, Tryd.results21, go_sem]) rfl ⟨rfl, ho, HST.out.keep⟩
              · have hz1 : ((m : Int) != 0) = true := by simp; omega
                obtain ⟨e1, e2, q, e3, e4⟩ := HST.out.pos.resolve_left hz
                have hl := HST.out.len m (Nat.le_refl _)
                have hrd := HST.out.rd HS.out hSl hSD m (Nat.le_refl _) (by omega)
                have hSc : S < wc.heap.size := Nat.lt_of_lt_of_le hSl HST.out.keep.size
                have hDc : D < wc.heap.size := Nat.lt_of_lt_of_le hDl HST.out.keep.size
                have hsum := HST.out.sum
                have hsc' := HST.out.scap
                have hsm' := HST.out.smax
                generalize hL : (bs.drop p).take m = l at hl hrd
                have HL := Lib.hid hL
                have HE := Lib.hid (⟨e1, e2, e3, e4⟩ : d' = od + p ∧ s' = os + p ∧ c' = cadd c q ∧ 16 * q = off + p)
                clear hL e1 e2 e3 e4
                have i0 : objAt ((wc.alloc (.cells (blk 0#128) 23)).alloc (.cells (blk 0#128) 23)) wc.heap.size = some (.cells (blk 0#128) 23 (0, 0)) := by simp [go_sem]
                have hbw : Below wc.heap.size wc ((wc.alloc (.cells (blk 0#128) 23)).alloc (.cells (blk 0#128) 23)) := ((Below.refl wc.heap.size wc).alloc (Nat.le_refl _) _).alloc (by simp) _
                have hrowS : rowOf 0 l (.slice (some ⟨S, s', none⟩) m sc') ((wc.alloc (.cells (blk 0#128) 23)).alloc (.cells (blk 0#128) 23)) :=
                  ⟨_, sc', by rw [hl], by omega, hsm', .inr ⟨S, s', rfl, Nat.zero_le _, by simp; omega, fun i x hx => (cell_same (hbw.block S hSc) _).trans (hrd i x hx)⟩⟩
                have hcp := run_copyB _ wc.heap.size 0 16 16 _ _ _ _ 3 i0 hrowS (by rw [blk_size]; decide)
                rw [List.take_of_length_le (by omega), blk_zero16, put_amid _ _ (by omega), ← blk_zero16, hl, show min m 16 = m by omega] at hcp
                have b0 : Below wc.heap.size wc ((wc.alloc (.cells (bcells (amid 0 l)).toArray 23)).alloc (.cells (blk 0#128) 23)) := ((Below.refl wc.heap.size wc).alloc (Nat.le_refl _) _).alloc (by simp) _
                have i1 : objAt ((wc.alloc (.cells (bcells (amid 0 l)).toArray 23)).alloc (.cells (blk 0#128) 23)) wc.heap.size = some (.cells (bcells (amid 0 l)).toArray 23 (0, 0)) := by simp [go_sem]
                have o1 : objAt ((wc.alloc (.cells (bcells (amid 0 l)).toArray 23)).alloc (.cells (blk 0#128) 23)) (wc.heap.size + 1) = some (.cells (blk 0#128) 23 (0, 0)) := by simp [go_sem]
                have HLl := Lib.hid hl
                clear hl hrd hbw i0 hrowS
                go_wp2_with (fail)
                clear hcp
                generalize (wc.alloc (.cells (bcells (amid 0 l)).toArray 23)).alloc (.cells (blk 0#128) 23) = w1 at *
                have hC1 : CiphAt T ks w1 C := (HC.out.keeps HST.out.keep hCD hG).below b0 (Nat.lt_of_lt_of_le HC.out.lt HST.out.keep.size)
                have gc := ctr1_any T ks C (wc.heap.size + 1) 0 wc.heap.size 0 (blk 0#128) (amid 0 l) 23 c' w1 hC1 (amid_length _ _ (by rw [HLl.out]; omega)) o1 (by rw [blk_bcells]; exact ⟨_, bytesOf_length _, bytesIn_all _⟩) (rdL_obj i1 (bytesIn_all _))
                have B0 := Lib.hid b0
                clear i1 o1 hC1 b0
                go_wp2_with (go_at_call 30; (with_reducible refine gc.mono ?_); rintro e w2 ⟨rfl, ho2, hk2⟩; have HO2 := Lib.hid ho2; have HK2 := Lib.hid hk2; clear ho2 hk2)
                have hD2 := HK2.out.at_ (oa_below HST.out.obj B0.out hDc) (by omega)
                have hxl : (xorL (amid 0 l) (ksL (ciph T ks) c' 0 16)).length = 16 := by rw [xorL_length, ksL_length, amid_length _ _ (by rw [HLl.out]; omega)]; rfl
                have hrow2 : rowOf 0 (xorL (amid 0 l) (ksL (ciph T ks) c' 0 16)) (.slice (some ⟨wc.heap.size + 1, 0, none⟩) 16 16) w2 := by
                  have h := rowOf_obj (n0 := 0) (c := 16) HO2.out (BytesIn.put (by rw [hxl, blk_size]; decide)) (Nat.zero_le _) (by rw [hxl]; decide) (by decide)
                  rwa [hxl] at h
                have hcp2 := run_copyB w2 D d' m dc' _ tD _ _ 3 hD2 hrow2 (by
                  have h := HR.out.le hpos
                  rw [putL_size]
                  have := HE.out.1
                  omega)
                have hres : putL (putL cs od ((ctrL (ciph T ks) c off bs).take p)) d' ((xorL (amid 0 l) (ksL (ciph T ks) c' 0 16)).take m) = putL cs od (ctrL (ciph T ks) c off bs) := by
                  have h1 := part_block (ciph T ks) c' 0 l (by rw [HLl.out]; omega)
                  rw [List.drop_zero, HLl.out] at h1
                  rw [h1, HE.out.1, HE.out.2.2.1, ← HL.out, ctrL_piece (ciph T ks) c off p m q bs (by omega) HE.out.2.2.2, put_piece _ _ _ _ _ (by rw [ctrL_length]; omega), List.take_of_length_le (by rw [ctrL_length]; omega)]
                rw [hres] at hcp2
                have HO3 := Lib.hid (objAt_setRow_same hD2 (putL cs od (ctrL (ciph T ks) c off bs)))
                have HK3 := Lib.hid (((HST.out.keep.below hDl HST.out.keep.size (B0.out.trans (HK2.out.bel.mono (by omega)))).row (putL cs od (ctrL (ciph T ks) c off bs))))
                clear hres hxl hrow2 hD2
                rw [hcp2]
                go_wp2
                exact bodyPost_end (v := .tuple #[]) (by simp [results, Tryd.results21, go_sem]) rfl ⟨rfl, HO3.out, HK3.out⟩
end Go.Proofs.YtfcdldcekdbckaeDoor
