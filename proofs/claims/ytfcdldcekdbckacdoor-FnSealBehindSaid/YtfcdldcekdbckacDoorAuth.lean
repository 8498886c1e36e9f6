/- The tag of a ciphertext and data, as the code makes it. -/
import Derived.Test.YtfcdldcekdbckacDoorFirst
namespace Go.Proofs.YtfcdldcekdbckacDoor
open Go Go.RowKit Gf

theorem chk_any (w : World) : Calls Tryd.prog 39 #[] w fun e w' => e = .returned (.tuple #[]) ∧ w' = w := by
  go_enter Tryd.func39, Tryd.ntmps39
  go_wp2
  exact bodyPost_end (v := .tuple #[]) (by simp [results, Tryd.results39, go_sem]) rfl ⟨rfl, rfl⟩

set_option maxRecDepth 100000 in
set_option maxHeartbeats 2000000 in
theorem authG_any (Ob Hb Mb : Nat) (h m o0 : BitVec 128) (tO tH tM : TypeId) (fM : Nat × Nat) (cs ds : List (BitVec 8)) (vc vd : Value) (w : World) (hO : objAt w Ob = some (.cells (blk o0) tO (0, 0))) (hH : objAt w Hb = some (.cells (blk h) tH (0, 0)))
    (hM : objAt w Mb = some (.cells (blk m) tM fM)) (hMO : Mb ≠ Ob) (hc : rowOf 0 cs vc w) (hd : rowOf 0 ds vd w) (hcl : cs.length ≤ 2147483647) (hdl : ds.length ≤ 2147483647) :
    Calls Tryd.prog 31 #[.slice (some ⟨Ob, 0, none⟩) 16 16, .pointer (some ⟨Hb, 0, none⟩), .pointer (some ⟨Mb, 0, none⟩), vc, vd] w fun e w' => e = .returned (.tuple #[]) ∧ objAt w' Ob = some (.cells (blk (tagOf h m cs ds)) tO (0, 0)) ∧ Keeps Ob w w' := by
  have hOl := oa_lt hO
  have hMl := oa_lt hM
  have hHl := oa_lt hH
  have hmk := run_make16 w
  obtain ⟨pc, cc, rfl⟩ := hc.slice
  obtain ⟨pd, cd, rfl⟩ := hd.slice
  have e0 := u64len ds.length hdl
  have e1 := u64bits ds.length
  have e2 := u64len cs.length hcl
  have e3 := u64bits cs.length
  have g60 := put64_any w.heap.size 0 8 16 0#128 (bits8 ds.length) 5 (w.alloc (.cells (blk 0#128) 5)) (by decide) (by decide) (by decide) (objAt_alloc_at _ _ _ rfl)
  have b0 := Lib.hid ((Below.refl w.heap.size w).alloc (Nat.le_refl _) (.cells (blk 0#128) 5))
  have hC := Lib.hid hc
  have hD := Lib.hid hd
  clear hc hd
  go_enter Tryd.func31, Tryd.ntmps31
  go_wp2_with (first
    | (go_at_call 39; (with_reducible refine (chk_any _).mono ?_); rintro e w0 ⟨rfl, hw0⟩; replace hw0 := hw0.symm; subst hw0)
    | (go_at_call 35; (with_reducible refine g60.mono ?_); rintro e w1 ⟨rfl, hN1, hk1⟩
       have B1 := Lib.hid (b0.out.trans hk1.bel)
       have g60' := put64_any w.heap.size 8 8 8 (put8 0#128 0 (bits8 ds.length) 8) (bits8 cs.length) 5 w1 (by decide) (by decide) (by decide) hN1
       clear hk1 g60 b0 hN1)
    | (go_at_call 35; (with_reducible refine g60'.mono ?_); rintro e w2 ⟨rfl, hN2, hk2⟩
       have B2 := B1.out.trans hk2.bel
       have z2 := B2.size
       have z3 := oa_lt hN2
       have g54 : Calls Tryd.prog 36 #[.pointer (some ⟨w2.heap.size, 0, none⟩), .pointer (some ⟨Hb, 0, none⟩), .slice (some ⟨w2.heap.size + 1, 0, none⟩) 3 3] ((w2.alloc (.cells (blk 0#128) 69)).alloc (.cells #[.slice pd ds.length cd, .slice pc cs.length cc, .slice (some ⟨w.heap.size, 0, none⟩) 16 16] 22))
           (fun e W' => e = .returned (.tuple #[]) ∧ objAt W' w2.heap.size = some (.cells (blk (hashOf [ds, cs, bytesOf (lenB (bits8 ds.length) (bits8 cs.length))] h)) 69 (0, 0)) ∧ Keeps w2.heap.size ((w2.alloc (.cells (blk 0#128) 69)).alloc (.cells #[.slice pd ds.length cd, .slice pc cs.length cc, .slice (some ⟨w.heap.size, 0, none⟩) 16 16] 22)) W') :=
         ghash_any w2.heap.size Hb 0#128 h 69 tH [ds, cs, bytesOf (lenB (bits8 ds.length) (bits8 cs.length))] (some ⟨w2.heap.size + 1, 0, none⟩) 3 _ (oa_alloc (objAt_alloc_at w2 (.cells (blk 0#128) 69) _ rfl) _) (oa_alloc (oa_alloc (oa_below hH B2 hHl) _) _) (by omega)
           (in_new3 (rowAt_new (stab_rowOf _ _ _ _ _ B2 hD.out) _ rfl) (rowAt_new (stab_rowOf _ _ _ _ _ B2 hC.out) _ rfl) (rowAt_new (rowOf_blk hN2 (Nat.zero_le _)) _ rfl) (by simp) (by simp))
       have B2' := Lib.hid ((B2.alloc B2.size (.cells (blk 0#128) 69)).alloc (by simp; omega) (.cells #[.slice pd ds.length cd, .slice pc cs.length cc, .slice (some ⟨w.heap.size, 0, none⟩) 16 16] 22))
       clear hk2 g60' B1 hN2 z3 B2)
    | (go_at_call 36; (with_reducible refine g54.mono ?_); rintro e w3 ⟨rfl, hS3, hk3⟩
       have B3 := Lib.hid (B2'.out.trans (hk3.bel.mono z2))
       clear hk3 g54 B2'))
  have hO3 := oa_below hO B3.out hOl
  have hM3 := oa_below hM B3.out hMl
  have g62 := xorb_any Ob w2.heap.size Mb _ m o0 tO 69 tM _ _ w3.drew hO3 hS3 hM3 (by omega) hMO
  have hK3 := Lib.hid (Keeps.of_below B3.out.drew hOl (Nat.le_refl _))
  clear hO3 hS3 hM3 B3
  refine wp_region_still_tail 5 (by kernel_rfl) (by kernel_rfl) ?_
  change wpStill _ _ (World.drew _) (fun a' => wpList _ _ _ _ a' (World.drew _)) _ _
  simp only [List.take_succ_cons, List.take_zero, List.drop_succ_cons, List.drop_zero]
  repeat still_step
  refine wpStill_nil ?_
  go_wp2_with (go_at_call 38; (with_reducible refine g62.mono ?_); rintro e w4 ⟨rfl, hO4, hk4⟩)
  exact bodyPost_end (v := .tuple #[]) (by simp [results, Tryd.results31, go_sem]) rfl ⟨rfl, hO4, hK3.out.trans hk4⟩

end Go.Proofs.YtfcdldcekdbckacDoor
