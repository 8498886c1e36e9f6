/- The law: GHASH of inputs is as the reference says. -/
import Derived.Test.YtdaebcaokoajjaaSHash
import Derived.Test.YtdaebcaokoajjaaOpen2
namespace Go.Proofs.Ytdaebcaokoajjaa
open Go Go.RowKit Gf

set_option maxHeartbeats 4000000 in
theorem hashis_is (key : BitVec 128) (inp : List (List (BitVec 8))) (v : Value) (w : World) (hin : rowsOf 0 inp v w) :
    Calls Try.prog 13 #[.agg (blk key), v] w fun e w' => e = .returned (.bool true) ∧ Below w.heap.size w w' := by
  have q0 : objAt (w.alloc (.cells (blk key) 27)) w.heap.size = some (.cells (blk key) 27 (0, 0)) := objAt_alloc_at _ _ _ rfl
  have b0 : Below w.heap.size w (w.alloc (.cells (blk key) 27)) := (Below.refl _ w).alloc (Nat.le_refl _) _
  have hr0 := stab_rowsOf _ _ _ _ _ b0 hin
  have gf := fits_any inp v _ hr0
  obtain ⟨p, c, rfl, _, _, _⟩ := id hin
  cases hfit0 : fitsB inp
  · rw [hfit0] at gf
    have b0' := Lib.hid b0
    clear hr0 hin b0
    go_enter Try.func13, Try.ntmps13
    go_wp2_with (go_at_call 32; (with_reducible refine gf.mono ?_); rintro e w1 ⟨rfl, hb1⟩; have hB := Lib.hid hb1; clear hb1)
    go_ret
    exact ⟨rfl, b0'.out.trans (hB.out.mono (by simp))⟩
  · rw [hfit0] at gf
    have hfit := fitsB_spec hfit0
    have hr0' := Lib.hid hr0
    have b0' := Lib.hid b0
    clear hr0 hin b0
    go_enter Try.func13, Try.ntmps13
    go_wp2_with (go_at_call 32; (with_reducible refine gf.mono ?_); rintro e w1 ⟨rfl, hb1⟩; have p0 := oa_below q0 hb1 (by simp); have hB := Lib.hid hb1; clear hb1)
    have hr1 := stab_rowsOf _ _ _ _ _ hB.out hr0'.out
    have b1 := b0'.out.trans (hB.out.mono (by simp))
    clear gf q0
    cases hfew : decide (total inp ≤ 16384)
    · skip
      refine wp_region_rel (l := [_, _, _, _, _, _, _, _, _, _, _, _]) (last := _) (fun w' => objAt w' w.heap.size = some (.cells (blk key) 27 (0, 0)) ∧ rowsOf 0 inp (.slice p inp.length c) w' ∧ Hid (Below w.heap.size w w'))
        [isv (.slice p inp.length c), isv (.bool false), isv (.bool true), isv (.bool true), isv (undef), isv (undef), isv (undef), isv (undef), isv (undef), isv (undef), isv (undef), isv (.bool true)]
        (by kernel_rfl) (by kernel_rfl) ⟨oa_drew p0, hr1, start0 b1⟩ (fun _ _ hb hS => ⟨oa_below hS.1 hb (oa_lt hS.1), stab_rowsOf _ _ _ _ _ hb hS.2.1, held0 hb hS.2.2⟩) ?rstab ?rops ?rlast
      case rstab => exact stabs_cons (stab_isv _) (stabs_cons (stab_isv _) (stabs_cons (stab_isv _) (stabs_cons (stab_isv _) (stabs_cons (stab_isv _) (stabs_cons (stab_isv _) (stabs_cons (stab_isv _) (stabs_cons (stab_isv _) (stabs_cons (stab_isv _) (stabs_cons (stab_isv _) (stabs_cons (stab_isv _) (stabs_cons (stab_isv _) stabs_nil)))))))))))
      case rops =>
        refine ⟨?_, ?_, ?_, ?_, ?_, ?_, ?_, ?_, ?_, ?_, ?_, ?_, trivial⟩
        · intro u w' hS hd
          refine opV_val (v := .slice p inp.length c) (by rfl) ?_ rfl
          simp only [frameOf, Act.put, List.setIfInBounds_toArray, List.set_cons_zero, List.set_cons_succ]
          go_simp
        · intro u w' hS hd
          have d0 : u 0 = .slice p inp.length c := hd ⟨0, .data⟩ (by simp) rfl
          refine opV_callB (f := 29) (args := #[.slice p inp.length c]) (by rfl) ?_ (hfew ▸ few_any inp (.slice p inp.length c) w' hS.2.1)
          simp only [frameOf, Act.put, List.setIfInBounds_toArray, List.set_cons_zero, List.set_cons_succ]
          go_simp
        · intro u w' hS hd
          have d1 : u 1 = .bool false := hd ⟨1, .data⟩ (by simp) rfl
          refine opV_val (v := .bool true) (by rfl) ?_ rfl
          simp only [frameOf, Act.put, List.setIfInBounds_toArray, List.set_cons_zero, List.set_cons_succ]
          go_simp
        · intro u w' hS hd
          have d2 : u 2 = .bool true := hd ⟨2, .data⟩ (by simp) rfl
          refine opV_val (v := .bool true) (by rfl) ?_ rfl
          simp only [frameOf, Act.put, List.setIfInBounds_toArray, List.set_cons_zero, List.set_cons_succ]
          go_simp
        · intro u w' hS hd
          have d3 : u 3 = .bool true := hd ⟨3, .guard⟩ (by simp) rfl
          refine opV_no (by simp [Region.wanted, yielded, frameOf, Act.put, d3]) rfl
        · intro u w' hS hd
          have d3 : u 3 = .bool true := hd ⟨3, .guard⟩ (by simp) rfl
          refine opV_no (by simp [Region.wanted, yielded, frameOf, Act.put, d3]) rfl
        · intro u w' hS hd
          have d3 : u 3 = .bool true := hd ⟨3, .guard⟩ (by simp) rfl
          refine opV_no (by simp [Region.wanted, yielded, frameOf, Act.put, d3]) rfl
        · intro u w' hS hd
          have d3 : u 3 = .bool true := hd ⟨3, .guard⟩ (by simp) rfl
          refine opV_no (by simp [Region.wanted, yielded, frameOf, Act.put, d3]) rfl
        · intro u w' hS hd
          have d3 : u 3 = .bool true := hd ⟨3, .guard⟩ (by simp) rfl
          refine opV_no (by simp [Region.wanted, yielded, frameOf, Act.put, d3]) rfl
        · intro u w' hS hd
          have d3 : u 3 = .bool true := hd ⟨3, .guard⟩ (by simp) rfl
          refine opV_no (by simp [Region.wanted, yielded, frameOf, Act.put, d3]) rfl
        · intro u w' hS hd
          have d3 : u 3 = .bool true := hd ⟨3, .guard⟩ (by simp) rfl
          refine opV_no (by simp [Region.wanted, yielded, frameOf, Act.put, d3]) rfl
        · intro u w' hS hd
          have d3 : u 3 = .bool true := hd ⟨3, .data⟩ (by simp) rfl
          refine opV_val (v := .bool true) (by rfl) ?_ rfl
          simp only [frameOf, Act.put, List.setIfInBounds_toArray, List.set_cons_zero, List.set_cons_succ]
          go_simp
      case rlast =>
        intro u w1 hS hV
        have d11 : u 11 = .bool true := hV 11 (by decide)
        simp only [frameOf, Act.put, List.setIfInBounds_toArray, List.set_cons_zero, List.set_cons_succ]
        simp only [wpOp, List.length_cons, List.length_nil, Nat.zero_add, Nat.reduceAdd]
        go_simp
        refine .inl ?_
        go_wp2
        go_ret
        exact ⟨rfl, hS.2.2.out⟩
    · skip
      refine wp_region_rel (l := [_, _, _, _, _, _, _, _, _, _, _, _]) (last := _) (fun w' => objAt w' w.heap.size = some (.cells (blk key) 27 (0, 0)) ∧ rowsOf 0 inp (.slice p inp.length c) w' ∧ Hid (Below w.heap.size w w'))
        [isv (.slice p inp.length c), isv (.bool true), isv (.bool false), isv (.bool false), isv (.agg (blk key)), isv (.slice p inp.length c), rowOf 0 (bytesOf (hashOf inp key)), isv (.agg (blk key)), isv (.slice p inp.length c), isv (.agg (blk (hashOf inp key))), isv (.bool true), isv (.bool true)]
        (by kernel_rfl) (by kernel_rfl) ⟨oa_drew p0, hr1, start0 b1⟩ (fun _ _ hb hS => ⟨oa_below hS.1 hb (oa_lt hS.1), stab_rowsOf _ _ _ _ _ hb hS.2.1, held0 hb hS.2.2⟩) ?rstab ?rops ?rlast
      case rstab => exact stabs_cons (stab_isv _) (stabs_cons (stab_isv _) (stabs_cons (stab_isv _) (stabs_cons (stab_isv _) (stabs_cons (stab_isv _) (stabs_cons (stab_isv _) (stabs_cons (stab_rowOf _ _) (stabs_cons (stab_isv _) (stabs_cons (stab_isv _) (stabs_cons (stab_isv _) (stabs_cons (stab_isv _) (stabs_cons (stab_isv _) stabs_nil)))))))))))
      case rops =>
        refine ⟨?_, ?_, ?_, ?_, ?_, ?_, ?_, ?_, ?_, ?_, ?_, ?_, trivial⟩
        · intro u w' hS hd
          refine opV_val (v := .slice p inp.length c) (by rfl) ?_ rfl
          simp only [frameOf, Act.put, List.setIfInBounds_toArray, List.set_cons_zero, List.set_cons_succ]
          go_simp
        · intro u w' hS hd
          have d0 : u 0 = .slice p inp.length c := hd ⟨0, .data⟩ (by simp) rfl
          refine opV_callB (f := 29) (args := #[.slice p inp.length c]) (by rfl) ?_ (hfew ▸ few_any inp (.slice p inp.length c) w' hS.2.1)
          simp only [frameOf, Act.put, List.setIfInBounds_toArray, List.set_cons_zero, List.set_cons_succ]
          go_simp
        · intro u w' hS hd
          have d1 : u 1 = .bool true := hd ⟨1, .data⟩ (by simp) rfl
          refine opV_val (v := .bool false) (by rfl) ?_ rfl
          simp only [frameOf, Act.put, List.setIfInBounds_toArray, List.set_cons_zero, List.set_cons_succ]
          go_simp
        · intro u w' hS hd
          have d2 : u 2 = .bool false := hd ⟨2, .data⟩ (by simp) rfl
          refine opV_val (v := .bool false) (by rfl) ?_ rfl
          simp only [frameOf, Act.put, List.setIfInBounds_toArray, List.set_cons_zero, List.set_cons_succ]
          go_simp
        · intro u w' hS hd
          have d3 : u 3 = .bool false := hd ⟨3, .guard⟩ (by simp) rfl
          refine opV_val (v := .agg (blk key)) (by simp [Region.wanted, yielded, frameOf, Act.put, d3]) ?_ rfl
          simp only [frameOf, Act.put, List.setIfInBounds_toArray, List.set_cons_zero, List.set_cons_succ]
          go_simp
        · intro u w' hS hd
          have d3 : u 3 = .bool false := hd ⟨3, .guard⟩ (by simp) rfl
          refine opV_val (v := .slice p inp.length c) (by simp [Region.wanted, yielded, frameOf, Act.put, d3]) ?_ rfl
          simp only [frameOf, Act.put, List.setIfInBounds_toArray, List.set_cons_zero, List.set_cons_succ]
          go_simp
        · intro u w' hS hd
          have d4 : u 4 = .agg (blk key) := hd ⟨4, .data⟩ (by simp) rfl
          have d5 : u 5 = .slice p inp.length c := hd ⟨5, .data⟩ (by simp) rfl
          have d3 : u 3 = .bool false := hd ⟨3, .guard⟩ (by simp) rfl
          refine opV_call (f := 30) (args := #[.agg (blk key), .slice p inp.length c]) (by simp [Region.wanted, yielded, frameOf, Act.put, d3]) ?_ ((ihash_row key inp (.slice p inp.length c) w' hS.2.1 hfit.1 hfit.2).mono fun e w2 ⟨v', he, hb, hr⟩ => ⟨v', he, hb, hr.mono (Nat.zero_le _)⟩)
          simp only [frameOf, Act.put, List.setIfInBounds_toArray, List.set_cons_zero, List.set_cons_succ]
          go_simp
        · intro u w' hS hd
          have d3 : u 3 = .bool false := hd ⟨3, .guard⟩ (by simp) rfl
          refine opV_val (v := .agg (blk key)) (by simp [Region.wanted, yielded, frameOf, Act.put, d3]) ?_ rfl
          simp only [frameOf, Act.put, List.setIfInBounds_toArray, List.set_cons_zero, List.set_cons_succ]
          go_simp
        · intro u w' hS hd
          have d3 : u 3 = .bool false := hd ⟨3, .guard⟩ (by simp) rfl
          refine opV_val (v := .slice p inp.length c) (by simp [Region.wanted, yielded, frameOf, Act.put, d3]) ?_ rfl
          simp only [frameOf, Act.put, List.setIfInBounds_toArray, List.set_cons_zero, List.set_cons_succ]
          go_simp
        · intro u w' hS hd
          have d7 : u 7 = .agg (blk key) := hd ⟨7, .data⟩ (by simp) rfl
          have d8 : u 8 = .slice p inp.length c := hd ⟨8, .data⟩ (by simp) rfl
          have d3 : u 3 = .bool false := hd ⟨3, .guard⟩ (by simp) rfl
          refine opV_callB (f := 34) (args := #[.agg (blk key), .slice p inp.length c]) (by simp [Region.wanted, yielded, frameOf, Act.put, d3]) ?_ (shash_any key inp (.slice p inp.length c) w' hS.2.1 hfit.2)
          simp only [frameOf, Act.put, List.setIfInBounds_toArray, List.set_cons_zero, List.set_cons_succ]
          go_simp
        · intro u w' hS hd
          have d6 : (rowOf 0 (bytesOf (hashOf inp key))) (u 6) w' := hd ⟨6, .data⟩ (by simp) rfl
          have d9 : u 9 = .agg (blk (hashOf inp key)) := hd ⟨9, .data⟩ (by simp) rfl
          have d3 : u 3 = .bool false := hd ⟨3, .guard⟩ (by simp) rfl
          refine opV_callB (f := 33) (args := #[u 6, .agg (blk (hashOf inp key))]) (by simp [Region.wanted, yielded, frameOf, Act.put, d3]) ?_ (is_any (hashOf inp key) (u 6) w' d6)
          simp only [frameOf, Act.put, List.setIfInBounds_toArray, List.set_cons_zero, List.set_cons_succ]
          go_simp
        · intro u w' hS hd
          have d3 : u 3 = .bool false := hd ⟨3, .data⟩ (by simp) rfl
          have d10 : u 10 = .bool true := hd ⟨10, .data⟩ (by simp) rfl
          refine opV_val (v := .bool true) (by rfl) ?_ rfl
          simp only [frameOf, Act.put, List.setIfInBounds_toArray, List.set_cons_zero, List.set_cons_succ]
          go_simp
      case rlast =>
        intro u w1 hS hV
        have d11 : u 11 = .bool true := hV 11 (by decide)
        simp only [frameOf, Act.put, List.setIfInBounds_toArray, List.set_cons_zero, List.set_cons_succ]
        simp only [wpOp, List.length_cons, List.length_nil, Nat.zero_add, Nat.reduceAdd]
        go_simp
        refine .inl ?_
        go_wp2
        go_ret
        exact ⟨rfl, hS.2.2.out⟩
end Go.Proofs.Ytdaebcaokoajjaa
