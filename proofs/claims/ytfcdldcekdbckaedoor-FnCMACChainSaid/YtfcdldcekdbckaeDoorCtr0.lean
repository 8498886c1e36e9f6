/- No bytes at all in counter mode. -/
import Derived.Test.YtfcdldcekdbckaeDoorCtrP
import Derived.Deep.DeepCutAuto
namespace Go.Proofs.YtfcdldcekdbckaeDoor
open Go Go.RowKit Gf
def NoneLeft (w : World) (s2 : Value) (wx : World) : Prop := (∃ p c, s2 = .slice p 0 c) ∧ Below w.heap.size w wx
set_option maxRecDepth 100000 in
set_option maxHeartbeats 8000000 in
theorem xks0_any (T : Tab) (ks : List (BitVec 8)) (C D od dc sc off : Nat) (p : Option Addr) (cs : Array Value) (tD : TypeId) (c : BitVec 128) (w : World) (hC : CiphAt T ks w C)
    (hlo : w.cell? ⟨C, 121, none⟩ = some (.int .u64 (n64 (loOf c)))) (hhi : w.cell? ⟨C, 122, none⟩ = some (.int .u64 (n64 (hiOf c))))
    (hD : objAt w D = some (.cells cs tD (0, 0))) (hod : od ≤ cs.size) (hsc : (sc : Int) ≤ 9223372036854775807) (hoff : off < 9223372036854775808) :
    Calls Tryd.prog 21 #[.pointer (some ⟨C, 0, none⟩), .slice (some ⟨D, od, none⟩) 0 dc, .slice p 0 sc, .int .u64 (off : Int)] w
      fun e w' => e = .returned (.tuple #[]) ∧ Below w.heap.size w w' := by
  obtain ⟨q0, hq0⟩ : ∃ q0, q0 = off / 16 := ⟨_, rfl⟩
  obtain ⟨bo, hbo⟩ : ∃ bo, bo = off % 16 := ⟨_, rfl⟩
  have e1 : (off : Int) / 16 = (q0 : Int) := by omega
  have e2 : (off : Int).tdiv 16 = (q0 : Int) := by rw [Int.tdiv_eq_ediv_of_nonneg (by omega)]; exact e1
  have e3 : (off : Int) % 16 = (bo : Int) := by omega
  have e4 : (off : Int).tmod 16 = (bo : Int) := by rw [Int.tmod_eq_emod_of_nonneg (by omega)]; exact e3
  have hb2 : bo < 16 := by omega
  have ga := addc_any c q0 (by omega)
  have HC := Lib.hid hC
  have HD := Lib.hid hD
  clear hC hD hq0 hbo
  go_enter Tryd.func21, Tryd.ntmps21
  go_wp2_with (fail)
  go_quiet ((go_at_call 29; exact Calls.quiet_of_same (ga _)))
  clear e1 e2 ga hlo hhi
  have hDl := oa_lt HD.out
  go_upto_if 43 with (fail)
  go_cut [1, 2, 8, 9] (fun _ s2 _ _ wx => NoneLeft w s2 wx)
  case first =>
    by_cases hb : bo = 0
    · have hb1 : ((bo : Int) != 0) = false := by simp [hb]
      go_wp2_with (fail)
      go_meet
      case rel => exact ⟨⟨_, _, rfl⟩, bel_drewN (Below.refl _ _) _⟩
    · have hb1 : ((bo : Int) != 0) = true := by simp [hb]
      have hb3 : (bo : Int) ≤ 16 := by omega
      have hb4 : ¬ 16 = bo := by omega
      have i0 : objAt (((w.alloc (.cells (blk 0#128) 23)).alloc (.cells (blk 0#128) 23)).drewN nq) w.heap.size = some (.cells (blk 0#128) 23 (0, 0)) := by simp [go_sem]
      have o1 : objAt (((w.alloc (.cells (blk 0#128) 23)).alloc (.cells (blk 0#128) 23)).drewN nq) (w.heap.size + 1) = some (.cells (blk 0#128) 23 (0, 0)) := by simp [go_sem]
      have b0 : Below w.heap.size w (((w.alloc (.cells (blk 0#128) 23)).alloc (.cells (blk 0#128) 23)).drewN nq) := bel_drewN (((Below.refl w.heap.size w).alloc (Nat.le_refl _) _).alloc (by simp) _) nq
      have hcp := run_copyB _ w.heap.size bo (16 - bo) (16 - bo) _ _ [] (.slice p 0 sc) 3 i0 ⟨p, sc, rfl, Nat.zero_le _, hsc, .inl rfl⟩ (by rw [blk_size]; omega)
      rw [List.take_nil, putL_nil, setRow_self _ _ _ _ _ i0] at hcp
      go_wp2_with (fail)
      generalize ((w.alloc (.cells (blk 0#128) 23)).alloc (.cells (blk 0#128) 23)).drewN nq = w1 at *
      have hC1 : CiphAt T ks w1 C := HC.out.below b0 HC.out.lt
      have hz16 : BytesIn (blk 0#128) 0 (List.replicate 16 0#8) := by rw [blk_zero16]; exact bytesIn_all _
      have gc := ctr1_any T ks C (w.heap.size + 1) 0 w.heap.size 0 (blk 0#128) (List.replicate 16 0#8) 23 (cadd c q0) w1 hC1 List.length_replicate o1 (by rw [blk_bcells]; exact ⟨_, bytesOf_length _, bytesIn_all _⟩) (rdL_obj i0 hz16)
      have B0 := Lib.hid b0
      clear hcp i0 o1 hC1 b0 hz16
      go_wp2_with (go_at_call 30; (with_reducible refine gc.mono ?_); rintro e w2 ⟨rfl, ho2, hk2⟩; have HO2 := Lib.hid ho2; have HK2 := Lib.hid hk2; clear ho2 hk2)
      have hD2 := HK2.out.at_ (oa_below HD.out B0.out hDl) (by omega)
      have hxl : (xorL (List.replicate 16 0#8) (ksL (ciph T ks) (cadd c q0) 0 16)).length = 16 := by rw [xorL_length, ksL_length, List.length_replicate]; rfl
      have hdl : ((xorL (List.replicate 16 0#8) (ksL (ciph T ks) (cadd c q0) 0 16)).drop bo).length = 16 - bo := by rw [List.length_drop, hxl]
      have hrow2 : rowOf 0 ((xorL (List.replicate 16 0#8) (ksL (ciph T ks) (cadd c q0) 0 16)).drop bo) (.slice (some ⟨w.heap.size + 1, bo, none⟩) (16 - bo) (16 - bo)) w2 := by
        have h := rowOf_obj (n0 := 0) (c := 16 - bo) HO2.out (bs := (xorL (List.replicate 16 0#8) (ksL (ciph T ks) (cadd c q0) 0 16)).drop bo) (o := bo) (fun i x hx => by
          rw [List.getElem?_drop] at hx
          have := putL_in (blk 0#128) 0 _ _ _ hx (by rw [hxl, blk_size]; decide)
          rwa [Nat.zero_add] at this) (Nat.zero_le _) (by rw [hdl]; exact Nat.le_refl _) (by omega)
        rwa [hdl] at h
      have hcp2 := run_copyB w2 D od 0 dc cs tD _ _ 3 hD2 hrow2 (by omega)
      rw [List.take_zero, putL_nil, setRow_self _ _ _ _ _ hD2, Nat.min_zero] at hcp2
      clear hrow2 hdl hxl
      rw [hcp2]
      have ga := addc_any (cadd c q0) 1 (by decide)
      have G1 : ∀ w : World, Calls Tryd.prog 29 #[.int .u64 (n64 (loOf (cadd c q0))), .int .u64 (n64 (hiOf (cadd c q0))), .int .u64 1] w fun e w' => e = .returned (.tuple #[.int .u64 (n64 (loOf (cadd (cadd c q0) 1))), .int .u64 (n64 (hiOf (cadd (cadd c q0) 1)))]) ∧ w' = w := ga
      clear ga
      go_wp2_with (go_at_call 29; (with_reducible refine (G1 _).mono ?_); rintro e w3 ⟨rfl, hw3⟩; replace hw3 := hw3.symm; subst hw3)
      all_goals
        go_meet
        case rel => exact ⟨⟨_, _, rfl⟩, B0.out.trans (HK2.out.bel.mono (by omega))⟩
  case rest =>
    obtain ⟨⟨p1, c1, rfl⟩, hb1⟩ := hcut
    clear e3 e4
    go_wp2_with (fail)
    go_loopw [1, 2, 8, 9] (fun _ s2 _ _ wx => NoneLeft w s2 wx) (fun _ _ _ _ _ => 0)
    case atStart => exact ⟨⟨_, _, rfl⟩, hb1⟩
    case round =>
      clear hb1
      obtain ⟨⟨p1, c1, rfl⟩, hb2⟩ := hrel
      have HB2 := Lib.hid hb2
      clear hb2
      go_wp2
      exact bodyPost_end (v := .tuple #[]) (by simp [results, Tryd.results21, go_sem]) rfl ⟨rfl, HB2.out⟩
end Go.Proofs.YtfcdldcekdbckaeDoor
