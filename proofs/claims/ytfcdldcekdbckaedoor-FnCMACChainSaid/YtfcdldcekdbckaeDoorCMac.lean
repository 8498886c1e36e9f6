/- The wrapper's code; bytes as a block; two blocks added. -/
import Derived.Test.YtfcdldcekdbckaeDoorMac
import Derived.Test.YtfcdldcekdbckaeDoorOwn2
namespace Go.Proofs.YtfcdldcekdbckaeDoor
open Go Go.RowKit Gf

theorem retA2 {fn : Func} {p q : Tmp} (h : fn.results = #[.cell p 23, .tmp q]) {tmps : Array Value} {w : World} {g : Nat} {t : TypeId} {fr : Nat × Nat} {x : BitVec 128} {v : Value}
    (hp : tmps.getD p undef = .pointer (some ⟨g, 0, none⟩)) (hq : tmps.getD q undef = v) (hg : objAt w g = some (.cells (blk x) t fr)) : (results fn tmps).run Tryd.prog w = .ok (.tuple #[.agg (blk x), v]) w := by
  have hp' : tmps[p]?.getD undef = .pointer (some ⟨g, 0, none⟩) := by simpa using hp
  have hq' : tmps[q]?.getD undef = v := by simpa using hq
  have hr := run_loadVar_row (P := Tryd.prog) w g t 23 (blk x) fr _ hg Tryd.underlying23 rfl (by rw [blk_size]; kernel_rfl)
  simp [results, h, hp', hq', asAddr, hr]

set_option maxRecDepth 100000 in
set_option maxHeartbeats 1000000 in
theorem cmac_any (T : Tab) (ks bs : List (BitVec 8)) (n : Nat) (vk vb : Value) (w : World) (hk : isKey ks) (hT : TabAt T w) (hrk : rowOf 0 ks vk w) (hrb : rowOf 0 bs vb w) (hn : 1 ≤ n) (hbs : bs.length = 16 * n) (hb48 : bs.length ≤ 281474976710656) :
    Calls Tryd.prog 10 #[vk, vb] w fun e w' => e = .returned (.tuple #[.agg (blk (macB (ciph T ks) bs n)), .bool true]) ∧ Below w.heap.size w w' := by
  have hkl : ks.length ≤ 281474976710656 := by unfold isKey at hk; omega
  obtain ⟨N, hN⟩ : ∃ N, N = w.heap.size := ⟨_, rfl⟩
  have b1 : Below w.heap.size w (w.alloc (.cells (blk 0#128) 23)) := (Below.refl _ w).alloc (Nat.le_refl _) _
  have o1 : objAt (w.alloc (.cells (blk 0#128) 23)) N = some (.cells (blk 0#128) 23 (0, 0)) := by rw [hN]; exact objAt_alloc_at _ _ _ rfl
  have gk := copied_any _ ks vk (stab_rowOf _ _ _ _ _ b1 hrk) hkl
  have HT := Lib.hid (hT.below b1 hT.sz)
  have HB := Lib.hid (stab_rowOf _ _ _ _ _ b1 hrb)
  have HG := Lib.hid hT.sz
  have B1 := Lib.hid b1
  have O1 := Lib.hid o1
  have HN := Lib.hid hN
  have HBS := Lib.hid hbs
  obtain ⟨z, hz⟩ : ∃ z, z = macB (ciph T ks) bs n := ⟨_, rfl⟩
  rw [← hz]
  have HZ := Lib.hid hz
  obtain ⟨pk, ck, rfl⟩ := hrk.slice
  obtain ⟨pb, cb, rfl⟩ := hrb.slice
  clear hT hrk hrb b1 o1 hN hbs hz
  go_enter Tryd.func10, Tryd.ntmps10
  go_wp2_with (go_at_call 15; (with_reducible refine gk.mono ?_); rintro e w2 ⟨v', rfl, hb2, hr2⟩)
  have hT2 := HT.out.below hb2 (by have := HG.out; simp; omega)
  refine (new_any T ks v' w2 hk hT2 (hr2.mono (Nat.zero_le _))).mono ?_
  rintro e w3 ⟨B, rfl, hBl, ⟨D0, hB⟩, hb3⟩
  have hb23 := hb2.trans (hb3.mono hb2.size)
  have HT3 := HT.out.below hb23 (by have := HG.out; simp; omega)
  have HB3 := Lib.hid (stab_rowOf _ _ _ _ _ hb23 HB.out)
  have B3 := Lib.hid (B1.out.trans (hb23.mono (by simp)))
  have O3 := Lib.hid (oa_below O1.out hb23 (oa_lt O1.out))
  have hN3 : N < w3.heap.size := oa_lt O3.out
  have gM := newMac_any T ks B D0 w3 hk HT3 hB
  clear hb2 hr2 hb3 hT2 hb23 hB gk HT HB
  have HT3' := Lib.hid HT3
  clear HT3
  go_wp2_with (go_at_call 18; (with_reducible refine gM.mono ?_); rintro e w4 ⟨M, cs, rfl, hMl, hM, hKC, hK1, hb4⟩)
  have hMN : nG ≤ M := by have := HT3'.out.sz; omega
  have gC := copied_any w4 bs _ (stab_rowOf _ _ _ _ _ hb4 HB3.out) hb48
  have C4 := Lib.hid ((⟨HT3'.out.below hb4 HT3'.out.sz, ⟨_, _, _, hM, hKC⟩, hk, hMN⟩ : CiphAt T ks w4 M))
  have HM4 := Lib.hid hM
  have HK1 := Lib.hid hK1
  have B4 := Lib.hid (B3.out.trans (hb4.mono B3.out.size))
  have O4 := Lib.hid (oa_below O3.out hb4 hN3)
  clear hb4 hM hKC hK1 gM HB3 B3 O3
  go_wp2_with (go_at_call 15; (with_reducible refine gC.mono ?_); rintro e w5 ⟨v5, rfl, hb5, hr5⟩)
  refine (mac_any T ks bs M n cs 67 v5 w5 (C4.out.below hb5 (oa_lt HM4.out)) (oa_below HM4.out hb5 (oa_lt HM4.out)) HK1.out (hr5.mono (Nat.zero_le _)) hn HBS.out).mono ?_
  rintro e w6 ⟨rfl, hb6⟩
  have hb56 := hb5.trans (hb6.mono hb5.size)
  have O6 := oa_below O4.out hb56 (oa_lt O4.out)
  have B6 := Lib.hid (B4.out.trans (hb56.mono B4.out.size))
  rw [← HZ.out]
  clear hb5 hb6 hb56 hr5 gC
  rw [HN.out] at O6
  have OZ := Lib.hid (objAt_setRow_same O6 (blk z))
  clear hn hk
  go_wp2
  refine bodyPost_ret (retA2 (x := z) (t := 23) (fr := (0, 0)) rfl rfl rfl OZ.out) rfl ⟨rfl, ?_⟩
  exact bel_setRow B6.out (Nat.le_refl _) _

set_option maxHeartbeats 1000000 in
theorem blockOf_any (x : BitVec 128) (v : Value) (w : World) (h : rowOf 0 (bytesOf x) v w) :
    Calls Tryd.prog 8 #[v] w fun e w' => e = .returned (.tuple #[.agg (blk x), .bool true]) ∧ Below w.heap.size w w' := by
  have b2 : Below w.heap.size w ((w.alloc (.cells (blk 0#128) 23)).alloc (.cells (blk 0#128) 23)) := by go_grown
  have hr := stab_rowOf _ _ _ _ _ b2 h
  have hcp := run_copyB ((w.alloc (.cells (blk 0#128) 23)).alloc (.cells (blk 0#128) 23)) (w.heap.size + 1) 0 16 16 (blk 0#128) 23 (bytesOf x) v 3 (objAt_alloc_at _ _ _ (by simp)) hr (by rw [blk_size]; decide)
  have hlen := bytesOf_length x
  rw [hlen, Nat.min_self, List.take_of_length_le (by rw [hlen]; exact Nat.le_refl _), put_blk] at hcp
  obtain ⟨p, c, rfl, _, _, _⟩ := h
  rw [hlen] at hcp ⊢
  have b4 : Below w.heap.size w (((w.alloc (.cells (blk x) 23)).alloc (.cells (blk x) 23))) := by go_grown
  clear b2 hr hlen
  go_enter Tryd.func8, Tryd.ntmps8
  go_wp2
  refine bodyPost_ret (retA2 (x := x) (t := 23) (fr := (0, 0)) rfl rfl rfl ?_) rfl ⟨rfl, ?_⟩
  · simp [go_sem]
  · exact b4

set_option maxRecDepth 100000 in
set_option maxHeartbeats 1000000 in
theorem lxor_any (x y : BitVec 128) (w : World) :
    Calls Tryd.prog 9 #[.agg (blk x), .agg (blk y)] w fun e w' => e = .returned (.agg (blk (x ^^^ y))) ∧ Below w.heap.size w w' := by
  go_enter Tryd.func9, Tryd.ntmps9
  go_wp2
  go_loopw [5, 6] (fun _ i wr => ∃ k n : Nat, k ≤ 16 ∧ i = .int .i64 k ∧ wr = (((w.alloc (.cells (blk (xorTo x y k)) 23)).alloc (.cells (blk y) 23)).alloc (.cells (blk 0#128) 23)).drewN n) (fun _ i _ => 16 - (intOf i).toNat)
  case atStart => exact ⟨0, 0, by omega, rfl, by rw [xorTo_zero]; rfl⟩
  case round =>
    obtain ⟨k, n, hk, rfl, rfl⟩ := hrel
    by_cases hlt : k < 16
    · have hk' : (k : Int) < 16 := by omega
      go_wp2
      refine wp_region_still_tail 9 (by kernel_rfl) (by kernel_rfl) ?_
      change wpStill _ _ (World.drew _) (fun a' => wpList _ _ _ _ a' (World.drew _)) _ _
      simp only [List.take_succ_cons, List.take_zero, List.drop_succ_cons, List.drop_zero]
      repeat still_step
      refine wpStill_nil ?_
      go_wp2
      go_roundw
      case rel =>
        refine ⟨k + 1, n + 1, by omega, by go_num, ?_⟩
        have e : setB (xorTo x y k) k (wxor (byte (xorTo x y k) k) (byte y k)) = xorTo x y (k + 1) := by unfold wxor; exact xorTo_succ x y k hlt
        rw [← e]
      case measure => simp [intOf]; omega
    · obtain rfl : k = 16 := by omega
      go_wp2
      refine bodyPost_ret (retA (x := xorTo x y 16) (t := 23) (fr := (0, 0)) rfl rfl (by simp [go_sem])) rfl ⟨?_, ?_⟩
      · rw [xorTo_all]
      · refine bel_drewN ?_ _
        go_grown
end Go.Proofs.YtfcdldcekdbckaeDoor
