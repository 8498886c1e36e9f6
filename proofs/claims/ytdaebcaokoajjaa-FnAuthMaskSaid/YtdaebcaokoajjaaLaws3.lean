/- The laws of the first counter and of the tag. -/
import Derived.Test.YtdaebcaokoajjaaFirstI
namespace Go.Proofs.Ytdaebcaokoajjaa
open Go Go.RowKit Gf

set_option maxHeartbeats 4000000 in
theorem first_is (h : BitVec 128) (bs : List (BitVec 8)) (v : Value) (w : World) (hr0 : rowOf 0 bs v w) :
    Calls Try.prog 20 #[.agg (blk h), v] w fun e w' => e = .returned (.bool true) ∧ Below w.heap.size w w' := by
  have p0 : objAt (w.alloc (.cells (blk h) 27)) w.heap.size = some (.cells (blk h) 27 (0, 0)) := objAt_alloc_at _ _ _ rfl
  have hB0 : Below w.heap.size w (w.alloc (.cells (blk h) 27)) := (Below.refl _ w).alloc (Nat.le_refl _) _
  have hr := stab_rowOf _ _ _ _ _ hB0 hr0
  obtain ⟨p, c, rfl⟩ := hr0.slice
  clear hr0
  by_cases hlen : bs.length ≤ 2147483647
  · have k1 : ¬ (2147483647 < (bs.length : Int)) := by omega
    go_enter Try.func20, Try.ntmps20
    go_wp2
    clear k1
    generalize w.alloc (.cells (blk h) 27) = W0 at p0 hB0 hr ⊢
    by_cases hz : bs.length = 0
    · have hz' : (bs.length : Int) = 0 := by omega
      refine wp_region_rel (l := [_, _, _, _, _, _, _, _, _, _, _, _, _, _, _, _, _, _]) (last := _) (fun w' => Hid (Below W0.heap.size W0 w'))
        [isv (.slice p bs.length c), isv (.int .i64 (bs.length : Int)), isv (.bool true), isv (.bool true), isv (undef), isv (undef), isv (undef), isv (undef), isv (.bool true), isv (.bool true), isv (undef), isv (undef), isv (undef), isv (undef), isv (undef), isv (undef), isv (undef), isv (.bool true)]
        (by kernel_rfl) (by kernel_rfl) (Lib.hid ((Below.refl _ _).drew)) (fun _ _ hb hS => held0 hb hS) ?rstab ?rops ?rlast
      case rstab => exact stabs_cons (stab_isv _) (stabs_cons (stab_isv _) (stabs_cons (stab_isv _) (stabs_cons (stab_isv _) (stabs_cons (stab_isv _) (stabs_cons (stab_isv _) (stabs_cons (stab_isv _) (stabs_cons (stab_isv _) (stabs_cons (stab_isv _) (stabs_cons (stab_isv _) (stabs_cons (stab_isv _) (stabs_cons (stab_isv _) (stabs_cons (stab_isv _) (stabs_cons (stab_isv _) (stabs_cons (stab_isv _) (stabs_cons (stab_isv _) (stabs_cons (stab_isv _) (stabs_cons (stab_isv _) stabs_nil)))))))))))))))))
      case rops =>
        refine ⟨?_, ?_, ?_, ?_, ?_, ?_, ?_, ?_, ?_, ?_, ?_, ?_, ?_, ?_, ?_, ?_, ?_, ?_, trivial⟩
        · intro u w' hS hd
          refine opV_val (v := .slice p bs.length c) (by rfl) ?_ rfl
          simp only [frameOf, Act.put, List.setIfInBounds_toArray, List.set_cons_zero, List.set_cons_succ]
          go_simp
        · intro u w' hS hd
          have d0 : u 0 = .slice p bs.length c := hd ⟨0, .data⟩ (by simp) rfl
          refine opV_val (v := .int .i64 (bs.length : Int)) (by rfl) ?_ rfl
          simp only [frameOf, Act.put, List.setIfInBounds_toArray, List.set_cons_zero, List.set_cons_succ]
          go_simp
        · intro u w' hS hd
          have d1 : u 1 = .int .i64 (bs.length : Int) := hd ⟨1, .data⟩ (by simp) rfl
          refine opV_val (v := .bool true) (by rfl) ?_ rfl
          simp only [frameOf, Act.put, List.setIfInBounds_toArray, List.set_cons_zero, List.set_cons_succ]
          go_simp
        · intro u w' hS hd
          have d2 : u 2 = .bool true := hd ⟨2, .data⟩ (by simp) rfl
          refine opV_val (v := .bool true) (by rfl) ?_ rfl
          simp only [frameOf, Act.put, List.setIfInBounds_toArray, List.set_cons_zero, List.set_cons_succ]
          go_simp
        · intro u w' hS hd
          have d3 : u 3 = .bool true := hd ⟨3, .guard⟩ (by simp) rfl
          refine opV_no (by simp [Region.wanted, yielded, frameOf, Act.put, d3]) rfl
        · intro u w' hS hd
          have d3 : u 3 = .bool true := hd ⟨3, .guard⟩ (by simp) rfl
          refine opV_no (by simp [Region.wanted, yielded, frameOf, Act.put, d3]) rfl
        · intro u w' hS hd
          have d3 : u 3 = .bool true := hd ⟨3, .guard⟩ (by simp) rfl
          refine opV_no (by simp [Region.wanted, yielded, frameOf, Act.put, d3]) rfl
        · intro u w' hS hd
          have d3 : u 3 = .bool true := hd ⟨3, .guard⟩ (by simp) rfl
          refine opV_no (by simp [Region.wanted, yielded, frameOf, Act.put, d3]) rfl
        · intro u w' hS hd
          have d3 : u 3 = .bool true := hd ⟨3, .data⟩ (by simp) rfl
          refine opV_val (v := .bool true) (by rfl) ?_ rfl
          simp only [frameOf, Act.put, List.setIfInBounds_toArray, List.set_cons_zero, List.set_cons_succ]
          go_simp
        · intro u w' hS hd
          have d8 : u 8 = .bool true := hd ⟨8, .data⟩ (by simp) rfl
          refine opV_val (v := .bool true) (by rfl) ?_ rfl
          simp only [frameOf, Act.put, List.setIfInBounds_toArray, List.set_cons_zero, List.set_cons_succ]
          go_simp
        · intro u w' hS hd
          have d9 : u 9 = .bool true := hd ⟨9, .guard⟩ (by simp) rfl
          refine opV_no (by simp [Region.wanted, yielded, frameOf, Act.put, d9]) rfl
        · intro u w' hS hd
          have d9 : u 9 = .bool true := hd ⟨9, .guard⟩ (by simp) rfl
          refine opV_no (by simp [Region.wanted, yielded, frameOf, Act.put, d9]) rfl
        · intro u w' hS hd
          have d9 : u 9 = .bool true := hd ⟨9, .guard⟩ (by simp) rfl
          refine opV_no (by simp [Region.wanted, yielded, frameOf, Act.put, d9]) rfl
        · intro u w' hS hd
          have d9 : u 9 = .bool true := hd ⟨9, .guard⟩ (by simp) rfl
          refine opV_no (by simp [Region.wanted, yielded, frameOf, Act.put, d9]) rfl
        · intro u w' hS hd
          have d9 : u 9 = .bool true := hd ⟨9, .guard⟩ (by simp) rfl
          refine opV_no (by simp [Region.wanted, yielded, frameOf, Act.put, d9]) rfl
        · intro u w' hS hd
          have d9 : u 9 = .bool true := hd ⟨9, .guard⟩ (by simp) rfl
          refine opV_no (by simp [Region.wanted, yielded, frameOf, Act.put, d9]) rfl
        · intro u w' hS hd
          have d9 : u 9 = .bool true := hd ⟨9, .guard⟩ (by simp) rfl
          refine opV_no (by simp [Region.wanted, yielded, frameOf, Act.put, d9]) rfl
        · intro u w' hS hd
          have d9 : u 9 = .bool true := hd ⟨9, .data⟩ (by simp) rfl
          refine opV_val (v := .bool true) (by rfl) ?_ rfl
          simp only [frameOf, Act.put, List.setIfInBounds_toArray, List.set_cons_zero, List.set_cons_succ]
          go_simp
      case rlast =>
        intro u w1 hS hV
        have d17 : u 17 = .bool true := hV 17 (by decide)
        simp only [frameOf, Act.put, List.setIfInBounds_toArray, List.set_cons_zero, List.set_cons_succ]
        simp only [wpOp, List.length_cons, List.length_nil, Nat.zero_add, Nat.reduceAdd]
        go_simp
        refine .inl ?_
        go_wp2
        go_ret
        exact ⟨rfl, hB0.trans (hS.out.mono hB0.size)⟩
    · have hz' : ¬ ((bs.length : Int) = 0) := by omega
      cases hfew : decide (total [bs] ≤ 16384)
      · skip
        refine wp_region_rel (l := [_, _, _, _, _, _, _, _, _, _, _, _, _, _, _, _, _, _]) (last := _) (fun w' => Hid (Below W0.heap.size W0 w'))
          [isv (.slice p bs.length c), isv (.int .i64 (bs.length : Int)), isv (.bool false), isv (.bool false), isv (.slice p bs.length c), rowsOf 0 [bs], isv (.bool false), isv (.bool true), isv (.bool true), isv (.bool true), isv (undef), isv (undef), isv (undef), isv (undef), isv (undef), isv (undef), isv (undef), isv (.bool true)]
          (by kernel_rfl) (by kernel_rfl) (Lib.hid ((Below.refl _ _).drew)) (fun _ _ hb hS => held0 hb hS) ?rstab ?rops ?rlast
        case rstab => exact stabs_cons (stab_isv _) (stabs_cons (stab_isv _) (stabs_cons (stab_isv _) (stabs_cons (stab_isv _) (stabs_cons (stab_isv _) (stabs_cons (stab_rowsOf _ _) (stabs_cons (stab_isv _) (stabs_cons (stab_isv _) (stabs_cons (stab_isv _) (stabs_cons (stab_isv _) (stabs_cons (stab_isv _) (stabs_cons (stab_isv _) (stabs_cons (stab_isv _) (stabs_cons (stab_isv _) (stabs_cons (stab_isv _) (stabs_cons (stab_isv _) (stabs_cons (stab_isv _) (stabs_cons (stab_isv _) stabs_nil)))))))))))))))))
        case rops =>
          refine ⟨?_, ?_, ?_, ?_, ?_, ?_, ?_, ?_, ?_, ?_, ?_, ?_, ?_, ?_, ?_, ?_, ?_, ?_, trivial⟩
          · intro u w' hS hd
            refine opV_val (v := .slice p bs.length c) (by rfl) ?_ rfl
            simp only [frameOf, Act.put, List.setIfInBounds_toArray, List.set_cons_zero, List.set_cons_succ]
            go_simp
          · intro u w' hS hd
            have d0 : u 0 = .slice p bs.length c := hd ⟨0, .data⟩ (by simp) rfl
            refine opV_val (v := .int .i64 (bs.length : Int)) (by rfl) ?_ rfl
            simp only [frameOf, Act.put, List.setIfInBounds_toArray, List.set_cons_zero, List.set_cons_succ]
            go_simp
          · intro u w' hS hd
            have d1 : u 1 = .int .i64 (bs.length : Int) := hd ⟨1, .data⟩ (by simp) rfl
            refine opV_val (v := .bool false) (by rfl) ?_ rfl
            simp only [frameOf, Act.put, List.setIfInBounds_toArray, List.set_cons_zero, List.set_cons_succ]
            go_simp
          · intro u w' hS hd
            have d2 : u 2 = .bool false := hd ⟨2, .data⟩ (by simp) rfl
            refine opV_val (v := .bool false) (by rfl) ?_ rfl
            simp only [frameOf, Act.put, List.setIfInBounds_toArray, List.set_cons_zero, List.set_cons_succ]
            go_simp
          · intro u w' hS hd
            have d3 : u 3 = .bool false := hd ⟨3, .guard⟩ (by simp) rfl
            refine opV_val (v := .slice p bs.length c) (by simp [Region.wanted, yielded, frameOf, Act.put, d3]) ?_ rfl
            simp only [frameOf, Act.put, List.setIfInBounds_toArray, List.set_cons_zero, List.set_cons_succ]
            go_simp
          · intro u w' hS hd
            have d4 : u 4 = .slice p bs.length c := hd ⟨4, .data⟩ (by simp) rfl
            have d3 : u 3 = .bool false := hd ⟨3, .guard⟩ (by simp) rfl
            refine opV_make (v := .slice (some ⟨w'.heap.size, 0, none⟩) 1 1) (w' := w'.alloc (.cells #[.slice p bs.length c] 35)) (by simp [Region.wanted, yielded, frameOf, Act.put, d3]) ?_ ((Below.refl _ _).alloc (Nat.le_refl _) _) (rows_new1 (stab_rowOf _ _ _ _ _ hS.out hr) rfl)
            simp only [frameOf, Act.put, List.setIfInBounds_toArray, List.set_cons_zero, List.set_cons_succ]
            go_simp
          · intro u w' hS hd
            have d5 : (rowsOf 0 [bs]) (u 5) w' := hd ⟨5, .data⟩ (by simp) rfl
            have d3 : u 3 = .bool false := hd ⟨3, .guard⟩ (by simp) rfl
            refine opV_callB (f := 29) (args := #[u 5]) (by simp [Region.wanted, yielded, frameOf, Act.put, d3]) ?_ (hfew ▸ few_any [bs] (u 5) w' d5)
            simp only [frameOf, Act.put, List.setIfInBounds_toArray, List.set_cons_zero, List.set_cons_succ]
            go_simp
          · intro u w' hS hd
            have d6 : u 6 = .bool false := hd ⟨6, .data⟩ (by simp) rfl
            have d3 : u 3 = .bool false := hd ⟨3, .guard⟩ (by simp) rfl
            refine opV_val (v := .bool true) (by simp [Region.wanted, yielded, frameOf, Act.put, d3]) ?_ rfl
            simp only [frameOf, Act.put, List.setIfInBounds_toArray, List.set_cons_zero, List.set_cons_succ]
            go_simp
          · intro u w' hS hd
            have d3 : u 3 = .bool false := hd ⟨3, .data⟩ (by simp) rfl
            have d7 : u 7 = .bool true := hd ⟨7, .data⟩ (by simp) rfl
            refine opV_val (v := .bool true) (by rfl) ?_ rfl
            simp only [frameOf, Act.put, List.setIfInBounds_toArray, List.set_cons_zero, List.set_cons_succ]
            go_simp
          · intro u w' hS hd
            have d8 : u 8 = .bool true := hd ⟨8, .data⟩ (by simp) rfl
            refine opV_val (v := .bool true) (by rfl) ?_ rfl
            simp only [frameOf, Act.put, List.setIfInBounds_toArray, List.set_cons_zero, List.set_cons_succ]
            go_simp
          · intro u w' hS hd
            have d9 : u 9 = .bool true := hd ⟨9, .guard⟩ (by simp) rfl
            refine opV_no (by simp [Region.wanted, yielded, frameOf, Act.put, d9]) rfl
          · intro u w' hS hd
            have d9 : u 9 = .bool true := hd ⟨9, .guard⟩ (by simp) rfl
            refine opV_no (by simp [Region.wanted, yielded, frameOf, Act.put, d9]) rfl
          · intro u w' hS hd
            have d9 : u 9 = .bool true := hd ⟨9, .guard⟩ (by simp) rfl
            refine opV_no (by simp [Region.wanted, yielded, frameOf, Act.put, d9]) rfl
          · intro u w' hS hd
            have d9 : u 9 = .bool true := hd ⟨9, .guard⟩ (by simp) rfl
            refine opV_no (by simp [Region.wanted, yielded, frameOf, Act.put, d9]) rfl
          · intro u w' hS hd
            have d9 : u 9 = .bool true := hd ⟨9, .guard⟩ (by simp) rfl
            refine opV_no (by simp [Region.wanted, yielded, frameOf, Act.put, d9]) rfl
          · intro u w' hS hd
            have d9 : u 9 = .bool true := hd ⟨9, .guard⟩ (by simp) rfl
            refine opV_no (by simp [Region.wanted, yielded, frameOf, Act.put, d9]) rfl
          · intro u w' hS hd
            have d9 : u 9 = .bool true := hd ⟨9, .guard⟩ (by simp) rfl
            refine opV_no (by simp [Region.wanted, yielded, frameOf, Act.put, d9]) rfl
          · intro u w' hS hd
            have d9 : u 9 = .bool true := hd ⟨9, .data⟩ (by simp) rfl
            refine opV_val (v := .bool true) (by rfl) ?_ rfl
            simp only [frameOf, Act.put, List.setIfInBounds_toArray, List.set_cons_zero, List.set_cons_succ]
            go_simp
        case rlast =>
          intro u w1 hS hV
          have d17 : u 17 = .bool true := hV 17 (by decide)
          simp only [frameOf, Act.put, List.setIfInBounds_toArray, List.set_cons_zero, List.set_cons_succ]
          simp only [wpOp, List.length_cons, List.length_nil, Nat.zero_add, Nat.reduceAdd]
          go_simp
          refine .inl ?_
          go_wp2
          go_ret
          exact ⟨rfl, hB0.trans (hS.out.mono hB0.size)⟩
      · skip
        refine wp_region_rel (l := [_, _, _, _, _, _, _, _, _, _, _, _, _, _, _, _, _, _]) (last := _) (fun w' => Hid (Below W0.heap.size W0 w'))
          [isv (.slice p bs.length c), isv (.int .i64 (bs.length : Int)), isv (.bool false), isv (.bool false), isv (.slice p bs.length c), rowsOf 0 [bs], isv (.bool true), isv (.bool false), isv (.bool false), isv (.bool false), isv (.agg (blk h)), isv (.slice p bs.length c), isv (.agg (blk (firstOf h bs))), isv (.agg (blk h)), isv (.slice p bs.length c), isv (.agg (blk (firstOf h bs))), isv (.bool true), isv (.bool true)]
          (by kernel_rfl) (by kernel_rfl) (Lib.hid ((Below.refl _ _).drew)) (fun _ _ hb hS => held0 hb hS) ?rstab ?rops ?rlast
        case rstab => exact stabs_cons (stab_isv _) (stabs_cons (stab_isv _) (stabs_cons (stab_isv _) (stabs_cons (stab_isv _) (stabs_cons (stab_isv _) (stabs_cons (stab_rowsOf _ _) (stabs_cons (stab_isv _) (stabs_cons (stab_isv _) (stabs_cons (stab_isv _) (stabs_cons (stab_isv _) (stabs_cons (stab_isv _) (stabs_cons (stab_isv _) (stabs_cons (stab_isv _) (stabs_cons (stab_isv _) (stabs_cons (stab_isv _) (stabs_cons (stab_isv _) (stabs_cons (stab_isv _) (stabs_cons (stab_isv _) stabs_nil)))))))))))))))))
        case rops =>
          refine ⟨?_, ?_, ?_, ?_, ?_, ?_, ?_, ?_, ?_, ?_, ?_, ?_, ?_, ?_, ?_, ?_, ?_, ?_, trivial⟩
          · intro u w' hS hd
            refine opV_val (v := .slice p bs.length c) (by rfl) ?_ rfl
            simp only [frameOf, Act.put, List.setIfInBounds_toArray, List.set_cons_zero, List.set_cons_succ]
            go_simp
          · intro u w' hS hd
            have d0 : u 0 = .slice p bs.length c := hd ⟨0, .data⟩ (by simp) rfl
            refine opV_val (v := .int .i64 (bs.length : Int)) (by rfl) ?_ rfl
            simp only [frameOf, Act.put, List.setIfInBounds_toArray, List.set_cons_zero, List.set_cons_succ]
            go_simp
          · intro u w' hS hd
            have d1 : u 1 = .int .i64 (bs.length : Int) := hd ⟨1, .data⟩ (by simp) rfl
            refine opV_val (v := .bool false) (by rfl) ?_ rfl
            simp only [frameOf, Act.put, List.setIfInBounds_toArray, List.set_cons_zero, List.set_cons_succ]
            go_simp
          · intro u w' hS hd
            have d2 : u 2 = .bool false := hd ⟨2, .data⟩ (by simp) rfl
            refine opV_val (v := .bool false) (by rfl) ?_ rfl
            simp only [frameOf, Act.put, List.setIfInBounds_toArray, List.set_cons_zero, List.set_cons_succ]
            go_simp
          · intro u w' hS hd
            have d3 : u 3 = .bool false := hd ⟨3, .guard⟩ (by simp) rfl
            refine opV_val (v := .slice p bs.length c) (by simp [Region.wanted, yielded, frameOf, Act.put, d3]) ?_ rfl
            simp only [frameOf, Act.put, List.setIfInBounds_toArray, List.set_cons_zero, List.set_cons_succ]
            go_simp
          · intro u w' hS hd
            have d4 : u 4 = .slice p bs.length c := hd ⟨4, .data⟩ (by simp) rfl
            have d3 : u 3 = .bool false := hd ⟨3, .guard⟩ (by simp) rfl
            refine opV_make (v := .slice (some ⟨w'.heap.size, 0, none⟩) 1 1) (w' := w'.alloc (.cells #[.slice p bs.length c] 35)) (by simp [Region.wanted, yielded, frameOf, Act.put, d3]) ?_ ((Below.refl _ _).alloc (Nat.le_refl _) _) (rows_new1 (stab_rowOf _ _ _ _ _ hS.out hr) rfl)
            simp only [frameOf, Act.put, List.setIfInBounds_toArray, List.set_cons_zero, List.set_cons_succ]
            go_simp
          · intro u w' hS hd
            have d5 : (rowsOf 0 [bs]) (u 5) w' := hd ⟨5, .data⟩ (by simp) rfl
            have d3 : u 3 = .bool false := hd ⟨3, .guard⟩ (by simp) rfl
            refine opV_callB (f := 29) (args := #[u 5]) (by simp [Region.wanted, yielded, frameOf, Act.put, d3]) ?_ (hfew ▸ few_any [bs] (u 5) w' d5)
            simp only [frameOf, Act.put, List.setIfInBounds_toArray, List.set_cons_zero, List.set_cons_succ]
            go_simp
          · intro u w' hS hd
            have d6 : u 6 = .bool true := hd ⟨6, .data⟩ (by simp) rfl
            have d3 : u 3 = .bool false := hd ⟨3, .guard⟩ (by simp) rfl
            refine opV_val (v := .bool false) (by simp [Region.wanted, yielded, frameOf, Act.put, d3]) ?_ rfl
            simp only [frameOf, Act.put, List.setIfInBounds_toArray, List.set_cons_zero, List.set_cons_succ]
            go_simp
          · intro u w' hS hd
            have d3 : u 3 = .bool false := hd ⟨3, .data⟩ (by simp) rfl
            have d7 : u 7 = .bool false := hd ⟨7, .data⟩ (by simp) rfl
            refine opV_val (v := .bool false) (by rfl) ?_ rfl
            simp only [frameOf, Act.put, List.setIfInBounds_toArray, List.set_cons_zero, List.set_cons_succ]
            go_simp
          · intro u w' hS hd
            have d8 : u 8 = .bool false := hd ⟨8, .data⟩ (by simp) rfl
            refine opV_val (v := .bool false) (by rfl) ?_ rfl
            simp only [frameOf, Act.put, List.setIfInBounds_toArray, List.set_cons_zero, List.set_cons_succ]
            go_simp
          · intro u w' hS hd
            have d9 : u 9 = .bool false := hd ⟨9, .guard⟩ (by simp) rfl
            have p0' := oa_below p0 hS.out (oa_lt p0)
            refine opV_val (v := .agg (blk h)) (by simp [Region.wanted, yielded, frameOf, Act.put, d9]) ?_ rfl
            simp only [frameOf, Act.put, List.setIfInBounds_toArray, List.set_cons_zero, List.set_cons_succ]
            go_simp
          · intro u w' hS hd
            have d9 : u 9 = .bool false := hd ⟨9, .guard⟩ (by simp) rfl
            refine opV_val (v := .slice p bs.length c) (by simp [Region.wanted, yielded, frameOf, Act.put, d9]) ?_ rfl
            simp only [frameOf, Act.put, List.setIfInBounds_toArray, List.set_cons_zero, List.set_cons_succ]
            go_simp
          · intro u w' hS hd
            have d10 : u 10 = .agg (blk h) := hd ⟨10, .data⟩ (by simp) rfl
            have d11 : u 11 = .slice p bs.length c := hd ⟨11, .data⟩ (by simp) rfl
            have d9 : u 9 = .bool false := hd ⟨9, .guard⟩ (by simp) rfl
            refine opV_callB (f := 37) (args := #[.agg (blk h), .slice p bs.length c]) (by simp [Region.wanted, yielded, frameOf, Act.put, d9]) ?_ (firstI_any h bs (.slice p bs.length c) w' (stab_rowOf _ _ _ _ _ hS.out hr) hlen)
            simp only [frameOf, Act.put, List.setIfInBounds_toArray, List.set_cons_zero, List.set_cons_succ]
            go_simp
          · intro u w' hS hd
            have d9 : u 9 = .bool false := hd ⟨9, .guard⟩ (by simp) rfl
            have p0' := oa_below p0 hS.out (oa_lt p0)
            refine opV_val (v := .agg (blk h)) (by simp [Region.wanted, yielded, frameOf, Act.put, d9]) ?_ rfl
            simp only [frameOf, Act.put, List.setIfInBounds_toArray, List.set_cons_zero, List.set_cons_succ]
            go_simp
          · intro u w' hS hd
            have d9 : u 9 = .bool false := hd ⟨9, .guard⟩ (by simp) rfl
            refine opV_val (v := .slice p bs.length c) (by simp [Region.wanted, yielded, frameOf, Act.put, d9]) ?_ rfl
            simp only [frameOf, Act.put, List.setIfInBounds_toArray, List.set_cons_zero, List.set_cons_succ]
            go_simp
          · intro u w' hS hd
            have d13 : u 13 = .agg (blk h) := hd ⟨13, .data⟩ (by simp) rfl
            have d14 : u 14 = .slice p bs.length c := hd ⟨14, .data⟩ (by simp) rfl
            have d9 : u 9 = .bool false := hd ⟨9, .guard⟩ (by simp) rfl
            refine opV_callB (f := 38) (args := #[.agg (blk h), .slice p bs.length c]) (by simp [Region.wanted, yielded, frameOf, Act.put, d9]) ?_ (firstS_any h bs (.slice p bs.length c) w' (stab_rowOf _ _ _ _ _ hS.out hr) hlen)
            simp only [frameOf, Act.put, List.setIfInBounds_toArray, List.set_cons_zero, List.set_cons_succ]
            go_simp
          · intro u w' hS hd
            have d12 : u 12 = .agg (blk (firstOf h bs)) := hd ⟨12, .data⟩ (by simp) rfl
            have d15 : u 15 = .agg (blk (firstOf h bs)) := hd ⟨15, .data⟩ (by simp) rfl
            have d9 : u 9 = .bool false := hd ⟨9, .guard⟩ (by simp) rfl
            have t0 : weq (firstOf h bs) (firstOf h bs) = true := weq_self _
            refine opV_val (v := .bool true) (by simp [Region.wanted, yielded, frameOf, Act.put, d9]) ?_ rfl
            simp only [frameOf, Act.put, List.setIfInBounds_toArray, List.set_cons_zero, List.set_cons_succ]
            go_simp
          · intro u w' hS hd
            have d9 : u 9 = .bool false := hd ⟨9, .data⟩ (by simp) rfl
            have d16 : u 16 = .bool true := hd ⟨16, .data⟩ (by simp) rfl
            refine opV_val (v := .bool true) (by rfl) ?_ rfl
            simp only [frameOf, Act.put, List.setIfInBounds_toArray, List.set_cons_zero, List.set_cons_succ]
            go_simp
        case rlast =>
          intro u w1 hS hV
          have d17 : u 17 = .bool true := hV 17 (by decide)
          simp only [frameOf, Act.put, List.setIfInBounds_toArray, List.set_cons_zero, List.set_cons_succ]
          simp only [wpOp, List.length_cons, List.length_nil, Nat.zero_add, Nat.reduceAdd]
          go_simp
          refine .inl ?_
          go_wp2
          go_ret
          exact ⟨rfl, hB0.trans (hS.out.mono hB0.size)⟩
  · have k1 : 2147483647 < (bs.length : Int) := by omega
    go_enter Try.func20, Try.ntmps20
    go_wp2
    go_ret
    exact ⟨rfl, hB0⟩

set_option maxRecDepth 100000 in
set_option maxHeartbeats 4000000 in
theorem auth_is (h m : BitVec 128) (cs ds : List (BitVec 8)) (vc vd : Value) (w : World) (hc0 : rowOf 0 cs vc w) (hd0 : rowOf 0 ds vd w) :
    Calls Try.prog 21 #[.agg (blk h), .agg (blk m), vc, vd] w fun e w' => e = .returned (.bool true) ∧ Below w.heap.size w w' := by
  have p0 : objAt ((w.alloc (.cells (blk h) 27)).alloc (.cells (blk m) 27)) w.heap.size = some (.cells (blk h) 27 (0, 0)) := by simp [go_sem]
  have p1 : objAt ((w.alloc (.cells (blk h) 27)).alloc (.cells (blk m) 27)) (w.heap.size + 1) = some (.cells (blk m) 27 (0, 0)) := by simp [go_sem]
  have hB0 : Below w.heap.size w ((w.alloc (.cells (blk h) 27)).alloc (.cells (blk m) 27)) := by go_grown
  have hc := stab_rowOf _ _ _ _ _ hB0 hc0
  have hrd := stab_rowOf _ _ _ _ _ hB0 hd0
  obtain ⟨pc, cc, rfl⟩ := hc0.slice
  obtain ⟨pd, cd, rfl⟩ := hd0.slice
  clear hc0 hd0
  by_cases hcl : cs.length ≤ 2147483647
  · have k1 : ¬ (2147483647 < (cs.length : Int)) := by omega
    by_cases hdl : ds.length ≤ 2147483647
    · have k2 : ¬ (2147483647 < (ds.length : Int)) := by omega
      go_enter Try.func21, Try.ntmps21
      go_wp2
      clear k1 k2
      generalize (w.alloc (.cells (blk h) 27)).alloc (.cells (blk m) 27) = W0 at p0 p1 hB0 hc hrd ⊢
      cases hfew : decide (total [cs, ds] ≤ 16384)
      · skip
        refine wp_region_rel (l := [_, _, _, _, _, _, _, _, _, _, _, _, _, _, _, _, _, _]) (last := _) (fun w' => Hid (Below W0.heap.size W0 w'))
          [isv (.slice pc cs.length cc), isv (.slice pd ds.length cd), rowsOf 0 [cs, ds], isv (.bool false), isv (.bool true), isv (.bool true), isv (undef), isv (undef), isv (undef), isv (undef), isv (undef), isv (undef), isv (undef), isv (undef), isv (undef), isv (undef), isv (undef), isv (.bool true)]
          (by kernel_rfl) (by kernel_rfl) (Lib.hid ((Below.refl _ _).drew)) (fun _ _ hb hS => held0 hb hS) ?rstab ?rops ?rlast
        case rstab => exact stabs_cons (stab_isv _) (stabs_cons (stab_isv _) (stabs_cons (stab_rowsOf _ _) (stabs_cons (stab_isv _) (stabs_cons (stab_isv _) (stabs_cons (stab_isv _) (stabs_cons (stab_isv _) (stabs_cons (stab_isv _) (stabs_cons (stab_isv _) (stabs_cons (stab_isv _) (stabs_cons (stab_isv _) (stabs_cons (stab_isv _) (stabs_cons (stab_isv _) (stabs_cons (stab_isv _) (stabs_cons (stab_isv _) (stabs_cons (stab_isv _) (stabs_cons (stab_isv _) (stabs_cons (stab_isv _) stabs_nil)))))))))))))))))
        case rops =>
          refine ⟨?_, ?_, ?_, ?_, ?_, ?_, ?_, ?_, ?_, ?_, ?_, ?_, ?_, ?_, ?_, ?_, ?_, ?_, trivial⟩
          · intro u w' hS hd
            refine opV_val (v := .slice pc cs.length cc) (by rfl) ?_ rfl
            simp only [frameOf, Act.put, List.setIfInBounds_toArray, List.set_cons_zero, List.set_cons_succ]
            go_simp
          · intro u w' hS hd
            refine opV_val (v := .slice pd ds.length cd) (by rfl) ?_ rfl
            simp only [frameOf, Act.put, List.setIfInBounds_toArray, List.set_cons_zero, List.set_cons_succ]
            go_simp
          · intro u w' hS hd
            have d0 : u 0 = .slice pc cs.length cc := hd ⟨0, .data⟩ (by simp) rfl
            have d1 : u 1 = .slice pd ds.length cd := hd ⟨1, .data⟩ (by simp) rfl
            refine opV_make (v := .slice (some ⟨w'.heap.size, 0, none⟩) 2 2) (w' := w'.alloc (.cells #[.slice pc cs.length cc, .slice pd ds.length cd] 35)) (by rfl) ?_ ((Below.refl _ _).alloc (Nat.le_refl _) _) (rows_new2 (stab_rowOf _ _ _ _ _ hS.out hc) (stab_rowOf _ _ _ _ _ hS.out hrd) rfl)
            simp only [frameOf, Act.put, List.setIfInBounds_toArray, List.set_cons_zero, List.set_cons_succ]
            go_simp
          · intro u w' hS hd
            have d2 : (rowsOf 0 [cs, ds]) (u 2) w' := hd ⟨2, .data⟩ (by simp) rfl
            refine opV_callB (f := 29) (args := #[u 2]) (by rfl) ?_ (hfew ▸ few_any [cs, ds] (u 2) w' d2)
            simp only [frameOf, Act.put, List.setIfInBounds_toArray, List.set_cons_zero, List.set_cons_succ]
            go_simp
          · intro u w' hS hd
            have d3 : u 3 = .bool false := hd ⟨3, .data⟩ (by simp) rfl
            refine opV_val (v := .bool true) (by rfl) ?_ rfl
            simp only [frameOf, Act.put, List.setIfInBounds_toArray, List.set_cons_zero, List.set_cons_succ]
            go_simp
          · intro u w' hS hd
            have d4 : u 4 = .bool true := hd ⟨4, .data⟩ (by simp) rfl
            refine opV_val (v := .bool true) (by rfl) ?_ rfl
            simp only [frameOf, Act.put, List.setIfInBounds_toArray, List.set_cons_zero, List.set_cons_succ]
            go_simp
          · intro u w' hS hd
            have d5 : u 5 = .bool true := hd ⟨5, .guard⟩ (by simp) rfl
            refine opV_no (by simp [Region.wanted, yielded, frameOf, Act.put, d5]) rfl
          · intro u w' hS hd
            have d5 : u 5 = .bool true := hd ⟨5, .guard⟩ (by simp) rfl
            refine opV_no (by simp [Region.wanted, yielded, frameOf, Act.put, d5]) rfl
          · intro u w' hS hd
            have d5 : u 5 = .bool true := hd ⟨5, .guard⟩ (by simp) rfl
            refine opV_no (by simp [Region.wanted, yielded, frameOf, Act.put, d5]) rfl
          · intro u w' hS hd
            have d5 : u 5 = .bool true := hd ⟨5, .guard⟩ (by simp) rfl
            refine opV_no (by simp [Region.wanted, yielded, frameOf, Act.put, d5]) rfl
          · intro u w' hS hd
            have d5 : u 5 = .bool true := hd ⟨5, .guard⟩ (by simp) rfl
            refine opV_no (by simp [Region.wanted, yielded, frameOf, Act.put, d5]) rfl
          · intro u w' hS hd
            have d5 : u 5 = .bool true := hd ⟨5, .guard⟩ (by simp) rfl
            refine opV_no (by simp [Region.wanted, yielded, frameOf, Act.put, d5]) rfl
          · intro u w' hS hd
            have d5 : u 5 = .bool true := hd ⟨5, .guard⟩ (by simp) rfl
            refine opV_no (by simp [Region.wanted, yielded, frameOf, Act.put, d5]) rfl
          · intro u w' hS hd
            have d5 : u 5 = .bool true := hd ⟨5, .guard⟩ (by simp) rfl
            refine opV_no (by simp [Region.wanted, yielded, frameOf, Act.put, d5]) rfl
          · intro u w' hS hd
            have d5 : u 5 = .bool true := hd ⟨5, .guard⟩ (by simp) rfl
            refine opV_no (by simp [Region.wanted, yielded, frameOf, Act.put, d5]) rfl
          · intro u w' hS hd
            have d5 : u 5 = .bool true := hd ⟨5, .guard⟩ (by simp) rfl
            refine opV_no (by simp [Region.wanted, yielded, frameOf, Act.put, d5]) rfl
          · intro u w' hS hd
            have d5 : u 5 = .bool true := hd ⟨5, .guard⟩ (by simp) rfl
            refine opV_no (by simp [Region.wanted, yielded, frameOf, Act.put, d5]) rfl
          · intro u w' hS hd
            have d5 : u 5 = .bool true := hd ⟨5, .data⟩ (by simp) rfl
            refine opV_val (v := .bool true) (by rfl) ?_ rfl
            simp only [frameOf, Act.put, List.setIfInBounds_toArray, List.set_cons_zero, List.set_cons_succ]
            go_simp
        case rlast =>
          intro u w1 hS hV
          have d17 : u 17 = .bool true := hV 17 (by decide)
          simp only [frameOf, Act.put, List.setIfInBounds_toArray, List.set_cons_zero, List.set_cons_succ]
          simp only [wpOp, List.length_cons, List.length_nil, Nat.zero_add, Nat.reduceAdd]
          go_simp
          refine .inl ?_
          go_wp2
          go_ret
          exact ⟨rfl, hB0.trans (hS.out.mono hB0.size)⟩
      · skip
        refine wp_region_rel (l := [_, _, _, _, _, _, _, _, _, _, _, _, _, _, _, _, _, _]) (last := _) (fun w' => Hid (Below W0.heap.size W0 w'))
          [isv (.slice pc cs.length cc), isv (.slice pd ds.length cd), rowsOf 0 [cs, ds], isv (.bool true), isv (.bool false), isv (.bool false), isv (.agg (blk h)), isv (.agg (blk m)), isv (.slice pc cs.length cc), isv (.slice pd ds.length cd), isv (.agg (blk (tagOf h m cs ds))), isv (.agg (blk h)), isv (.agg (blk m)), isv (.slice pc cs.length cc), isv (.slice pd ds.length cd), isv (.agg (blk (tagOf h m cs ds))), isv (.bool true), isv (.bool true)]
          (by kernel_rfl) (by kernel_rfl) (Lib.hid ((Below.refl _ _).drew)) (fun _ _ hb hS => held0 hb hS) ?rstab ?rops ?rlast
        case rstab => exact stabs_cons (stab_isv _) (stabs_cons (stab_isv _) (stabs_cons (stab_rowsOf _ _) (stabs_cons (stab_isv _) (stabs_cons (stab_isv _) (stabs_cons (stab_isv _) (stabs_cons (stab_isv _) (stabs_cons (stab_isv _) (stabs_cons (stab_isv _) (stabs_cons (stab_isv _) (stabs_cons (stab_isv _) (stabs_cons (stab_isv _) (stabs_cons (stab_isv _) (stabs_cons (stab_isv _) (stabs_cons (stab_isv _) (stabs_cons (stab_isv _) (stabs_cons (stab_isv _) (stabs_cons (stab_isv _) stabs_nil)))))))))))))))))
        case rops =>
          refine ⟨?_, ?_, ?_, ?_, ?_, ?_, ?_, ?_, ?_, ?_, ?_, ?_, ?_, ?_, ?_, ?_, ?_, ?_, trivial⟩
          · intro u w' hS hd
            refine opV_val (v := .slice pc cs.length cc) (by rfl) ?_ rfl
            simp only [frameOf, Act.put, List.setIfInBounds_toArray, List.set_cons_zero, List.set_cons_succ]
            go_simp
          · intro u w' hS hd
            refine opV_val (v := .slice pd ds.length cd) (by rfl) ?_ rfl
            simp only [frameOf, Act.put, List.setIfInBounds_toArray, List.set_cons_zero, List.set_cons_succ]
            go_simp
          · intro u w' hS hd
            have d0 : u 0 = .slice pc cs.length cc := hd ⟨0, .data⟩ (by simp) rfl
            have d1 : u 1 = .slice pd ds.length cd := hd ⟨1, .data⟩ (by simp) rfl
            refine opV_make (v := .slice (some ⟨w'.heap.size, 0, none⟩) 2 2) (w' := w'.alloc (.cells #[.slice pc cs.length cc, .slice pd ds.length cd] 35)) (by rfl) ?_ ((Below.refl _ _).alloc (Nat.le_refl _) _) (rows_new2 (stab_rowOf _ _ _ _ _ hS.out hc) (stab_rowOf _ _ _ _ _ hS.out hrd) rfl)
            simp only [frameOf, Act.put, List.setIfInBounds_toArray, List.set_cons_zero, List.set_cons_succ]
            go_simp
          · intro u w' hS hd
            have d2 : (rowsOf 0 [cs, ds]) (u 2) w' := hd ⟨2, .data⟩ (by simp) rfl
            refine opV_callB (f := 29) (args := #[u 2]) (by rfl) ?_ (hfew ▸ few_any [cs, ds] (u 2) w' d2)
            simp only [frameOf, Act.put, List.setIfInBounds_toArray, List.set_cons_zero, List.set_cons_succ]
            go_simp
          · intro u w' hS hd
            have d3 : u 3 = .bool true := hd ⟨3, .data⟩ (by simp) rfl
            refine opV_val (v := .bool false) (by rfl) ?_ rfl
            simp only [frameOf, Act.put, List.setIfInBounds_toArray, List.set_cons_zero, List.set_cons_succ]
            go_simp
          · intro u w' hS hd
            have d4 : u 4 = .bool false := hd ⟨4, .data⟩ (by simp) rfl
            refine opV_val (v := .bool false) (by rfl) ?_ rfl
            simp only [frameOf, Act.put, List.setIfInBounds_toArray, List.set_cons_zero, List.set_cons_succ]
            go_simp
          · intro u w' hS hd
            have d5 : u 5 = .bool false := hd ⟨5, .guard⟩ (by simp) rfl
            have p0' := oa_below p0 hS.out (oa_lt p0)
            refine opV_val (v := .agg (blk h)) (by simp [Region.wanted, yielded, frameOf, Act.put, d5]) ?_ rfl
            simp only [frameOf, Act.put, List.setIfInBounds_toArray, List.set_cons_zero, List.set_cons_succ]
            go_simp
          · intro u w' hS hd
            have d5 : u 5 = .bool false := hd ⟨5, .guard⟩ (by simp) rfl
            have p1' := oa_below p1 hS.out (oa_lt p1)
            refine opV_val (v := .agg (blk m)) (by simp [Region.wanted, yielded, frameOf, Act.put, d5]) ?_ rfl
            simp only [frameOf, Act.put, List.setIfInBounds_toArray, List.set_cons_zero, List.set_cons_succ]
            go_simp
          · intro u w' hS hd
            have d5 : u 5 = .bool false := hd ⟨5, .guard⟩ (by simp) rfl
            refine opV_val (v := .slice pc cs.length cc) (by simp [Region.wanted, yielded, frameOf, Act.put, d5]) ?_ rfl
            simp only [frameOf, Act.put, List.setIfInBounds_toArray, List.set_cons_zero, List.set_cons_succ]
            go_simp
          · intro u w' hS hd
            have d5 : u 5 = .bool false := hd ⟨5, .guard⟩ (by simp) rfl
            refine opV_val (v := .slice pd ds.length cd) (by simp [Region.wanted, yielded, frameOf, Act.put, d5]) ?_ rfl
            simp only [frameOf, Act.put, List.setIfInBounds_toArray, List.set_cons_zero, List.set_cons_succ]
            go_simp
          · intro u w' hS hd
            have d6 : u 6 = .agg (blk h) := hd ⟨6, .data⟩ (by simp) rfl
            have d7 : u 7 = .agg (blk m) := hd ⟨7, .data⟩ (by simp) rfl
            have d8 : u 8 = .slice pc cs.length cc := hd ⟨8, .data⟩ (by simp) rfl
            have d9 : u 9 = .slice pd ds.length cd := hd ⟨9, .data⟩ (by simp) rfl
            have d5 : u 5 = .bool false := hd ⟨5, .guard⟩ (by simp) rfl
            refine opV_callB (f := 39) (args := #[.agg (blk h), .agg (blk m), .slice pc cs.length cc, .slice pd ds.length cd]) (by simp [Region.wanted, yielded, frameOf, Act.put, d5]) ?_ (authI_any h m cs ds (.slice pc cs.length cc) (.slice pd ds.length cd) w' (stab_rowOf _ _ _ _ _ hS.out hc) (stab_rowOf _ _ _ _ _ hS.out hrd) hcl hdl)
            simp only [frameOf, Act.put, List.setIfInBounds_toArray, List.set_cons_zero, List.set_cons_succ]
            go_simp
          · intro u w' hS hd
            have d5 : u 5 = .bool false := hd ⟨5, .guard⟩ (by simp) rfl
            have p0' := oa_below p0 hS.out (oa_lt p0)
            refine opV_val (v := .agg (blk h)) (by simp [Region.wanted, yielded, frameOf, Act.put, d5]) ?_ rfl
            simp only [frameOf, Act.put, List.setIfInBounds_toArray, List.set_cons_zero, List.set_cons_succ]
            go_simp
          · intro u w' hS hd
            have d5 : u 5 = .bool false := hd ⟨5, .guard⟩ (by simp) rfl
            have p1' := oa_below p1 hS.out (oa_lt p1)
            refine opV_val (v := .agg (blk m)) (by simp [Region.wanted, yielded, frameOf, Act.put, d5]) ?_ rfl
            simp only [frameOf, Act.put, List.setIfInBounds_toArray, List.set_cons_zero, List.set_cons_succ]
            go_simp
          · intro u w' hS hd
            have d5 : u 5 = .bool false := hd ⟨5, .guard⟩ (by simp) rfl
            refine opV_val (v := .slice pc cs.length cc) (by simp [Region.wanted, yielded, frameOf, Act.put, d5]) ?_ rfl
            simp only [frameOf, Act.put, List.setIfInBounds_toArray, List.set_cons_zero, List.set_cons_succ]
            go_simp
          · intro u w' hS hd
            have d5 : u 5 = .bool false := hd ⟨5, .guard⟩ (by simp) rfl
            refine opV_val (v := .slice pd ds.length cd) (by simp [Region.wanted, yielded, frameOf, Act.put, d5]) ?_ rfl
            simp only [frameOf, Act.put, List.setIfInBounds_toArray, List.set_cons_zero, List.set_cons_succ]
            go_simp
          · intro u w' hS hd
            have d11 : u 11 = .agg (blk h) := hd ⟨11, .data⟩ (by simp) rfl
            have d12 : u 12 = .agg (blk m) := hd ⟨12, .data⟩ (by simp) rfl
            have d13 : u 13 = .slice pc cs.length cc := hd ⟨13, .data⟩ (by simp) rfl
            have d14 : u 14 = .slice pd ds.length cd := hd ⟨14, .data⟩ (by simp) rfl
            have d5 : u 5 = .bool false := hd ⟨5, .guard⟩ (by simp) rfl
            refine opV_callB (f := 40) (args := #[.agg (blk h), .agg (blk m), .slice pc cs.length cc, .slice pd ds.length cd]) (by simp [Region.wanted, yielded, frameOf, Act.put, d5]) ?_ (tagS_any h m cs ds (.slice pc cs.length cc) (.slice pd ds.length cd) w' (stab_rowOf _ _ _ _ _ hS.out hc) (stab_rowOf _ _ _ _ _ hS.out hrd) hcl hdl)
            simp only [frameOf, Act.put, List.setIfInBounds_toArray, List.set_cons_zero, List.set_cons_succ]
            go_simp
          · intro u w' hS hd
            have d10 : u 10 = .agg (blk (tagOf h m cs ds)) := hd ⟨10, .data⟩ (by simp) rfl
            have d15 : u 15 = .agg (blk (tagOf h m cs ds)) := hd ⟨15, .data⟩ (by simp) rfl
            have d5 : u 5 = .bool false := hd ⟨5, .guard⟩ (by simp) rfl
            have t0 : weq (tagOf h m cs ds) (tagOf h m cs ds) = true := weq_self _
            refine opV_val (v := .bool true) (by simp [Region.wanted, yielded, frameOf, Act.put, d5]) ?_ rfl
            simp only [frameOf, Act.put, List.setIfInBounds_toArray, List.set_cons_zero, List.set_cons_succ]
            go_simp
          · intro u w' hS hd
            have d5 : u 5 = .bool false := hd ⟨5, .data⟩ (by simp) rfl
            have d16 : u 16 = .bool true := hd ⟨16, .data⟩ (by simp) rfl
            refine opV_val (v := .bool true) (by rfl) ?_ rfl
            simp only [frameOf, Act.put, List.setIfInBounds_toArray, List.set_cons_zero, List.set_cons_succ]
            go_simp
        case rlast =>
          intro u w1 hS hV
          have d17 : u 17 = .bool true := hV 17 (by decide)
          simp only [frameOf, Act.put, List.setIfInBounds_toArray, List.set_cons_zero, List.set_cons_succ]
          simp only [wpOp, List.length_cons, List.length_nil, Nat.zero_add, Nat.reduceAdd]
          go_simp
          refine .inl ?_
          go_wp2
          go_ret
          exact ⟨rfl, hB0.trans (hS.out.mono hB0.size)⟩
    · have k2 : 2147483647 < (ds.length : Int) := by omega
      go_enter Try.func21, Try.ntmps21
      go_wp2
      go_ret
      exact ⟨rfl, hB0⟩
  · have k1 : 2147483647 < (cs.length : Int) := by omega
    go_enter Try.func21, Try.ntmps21
    go_wp2
    go_ret
    exact ⟨rfl, hB0⟩

theorem rowOf_nil {w : World} : rowOf 0 [] (.slice none 0 0) w := ⟨none, 0, rfl, by simp, by decide, .inl rfl⟩
theorem tag_mask (h m : BitVec 128) (cs ds : List (BitVec 8)) : tagOf h 0#128 cs ds ^^^ m = tagOf h m cs ds := by unfold tagOf; rw [BitVec.xor_zero]
theorem put8_nil (o : Nat) : put8 0#128 o (bits8 0) 8 = 0#128 := bytes_ext fun i hi => by
  unfold put8
  rw [byte_of _ i hi, byte_zero]
  by_cases h : o ≤ i ∧ i < o + 8
  · rw [if_pos h]; unfold w8 bits8 wext wshr; simp
  · rw [if_neg h]
theorem tag_none (h : BitVec 128) : tagOf h e0 [] [] = e0 := by
  unfold tagOf
  have e : hashOf [[], [], bytesOf (lenB (bits8 0) (bits8 0))] h = 0#128 := by
    have e1 : lenB (bits8 0) (bits8 0) = 0#128 := by unfold lenB; rw [put8_nil, put8_nil]
    rw [e1]
    unfold hashOf
    refine yk_zeros _ _ (fun x hx => ?_) _
    simp only [seqOf, List.flatMap_cons, List.flatMap_nil, List.append_nil, blksOf_bytesOf] at hx
    simp only [blksOf, nb, List.length_nil] at hx
    simpa using hx
  have e2 : ([] : List (BitVec 8)).length = 0 := rfl
  rw [e2, e, BitVec.zero_xor]
theorem tag_none_call (h : BitVec 128) (w : World) : Calls Try.prog 39 #[.agg (blk h), .agg (blk e0), .slice none 0 0, .slice none 0 0] w fun e w' => e = .returned (.agg (blk e0)) ∧ Below w.heap.size w w' := by
  have g := authI_any h e0 [] [] (.slice none 0 0) (.slice none 0 0) w rowOf_nil rowOf_nil (by simp) (by simp)
  rw [tag_none] at g
  exact g

set_option maxRecDepth 100000 in
set_option maxHeartbeats 4000000 in
theorem mask_is (h m : BitVec 128) (cs ds : List (BitVec 8)) (vc vd : Value) (w : World) (hc0 : rowOf 0 cs vc w) (hd0 : rowOf 0 ds vd w) :
    Calls Try.prog 22 #[.agg (blk h), .agg (blk m), vc, vd] w fun e w' => e = .returned (.bool true) ∧ Below w.heap.size w w' := by
  have p0 : objAt ((w.alloc (.cells (blk h) 27)).alloc (.cells (blk m) 27)) w.heap.size = some (.cells (blk h) 27 (0, 0)) := by simp [go_sem]
  have p1 : objAt ((w.alloc (.cells (blk h) 27)).alloc (.cells (blk m) 27)) (w.heap.size + 1) = some (.cells (blk m) 27 (0, 0)) := by simp [go_sem]
  have hB0 : Below w.heap.size w ((w.alloc (.cells (blk h) 27)).alloc (.cells (blk m) 27)) := by go_grown
  have hc := stab_rowOf _ _ _ _ _ hB0 hc0
  have hrd := stab_rowOf _ _ _ _ _ hB0 hd0
  obtain ⟨pc, cc, rfl⟩ := hc0.slice
  obtain ⟨pd, cd, rfl⟩ := hd0.slice
  clear hc0 hd0
  by_cases hcl : cs.length ≤ 2147483647
  · have k1 : ¬ (2147483647 < (cs.length : Int)) := by omega
    by_cases hdl : ds.length ≤ 2147483647
    · have k2 : ¬ (2147483647 < (ds.length : Int)) := by omega
      have gf := few_any [cs, ds] (.slice (some ⟨w.heap.size + 1 + 1, 0, none⟩) 2 2) _ (rows_new2 hc hrd (by simp))
      have p0' := oa_alloc p0 (.cells #[.slice pc cs.length cc, .slice pd ds.length cd] 35)
      have p1' := oa_alloc p1 (.cells #[.slice pc cs.length cc, .slice pd ds.length cd] 35)
      have B0 := Lib.hid (hB0.trans ((Below.refl _ _).alloc hB0.size (.cells #[.slice pc cs.length cc, .slice pd ds.length cd] 35)))
      have hc0 := Lib.hid (stab_rowOf _ _ _ _ _ ((Below.refl _ _).alloc (Nat.le_refl _) (.cells #[.slice pc cs.length cc, .slice pd ds.length cd] 35)) hc)
      have hd0 := Lib.hid (stab_rowOf _ _ _ _ _ ((Below.refl _ _).alloc (Nat.le_refl _) (.cells #[.slice pc cs.length cc, .slice pd ds.length cd] 35)) hrd)
      clear hc hrd hB0 p0 p1
      cases hfew : decide (total [cs, ds] ≤ 16384)
      · rw [hfew] at gf
        go_enter Try.func22, Try.ntmps22
        go_wp2_with (go_at_call 29; (with_reducible refine gf.mono ?_); rintro e w1 ⟨rfl, hb1⟩; have B1 := Lib.hid (B0.out.trans (hb1.mono B0.out.size)); clear hb1 gf)
        go_ret
        exact ⟨rfl, B1.out⟩
      · rw [hfew] at gf
        go_enter Try.func22, Try.ntmps22
        go_wp2_with (first
          | (go_at_call 29; (with_reducible refine gf.mono ?_); rintro e w1 ⟨rfl, hb1⟩; have p0 := oa_below p0' hb1 (oa_lt p0'); have p1 := oa_below p1' hb1 (oa_lt p1'); have B1 := Lib.hid (B0.out.trans (hb1.mono B0.out.size)); have hc1 := Lib.hid (stab_rowOf _ _ _ _ _ hb1 hc0.out); have hd1 := Lib.hid (stab_rowOf _ _ _ _ _ hb1 hd0.out); clear hb1 gf p0' p1' B0 hc0 hd0)
          | (go_at_call 39; (with_reducible refine (authI_any h 0#128 cs ds _ _ _ hc1.out hd1.out hcl hdl).mono ?_); rintro e w2 ⟨rfl, hb2⟩; have p0' := oa_alloc (oa_below p0 hb2 (oa_lt p0)) (.cells (blk (tagOf h 0#128 cs ds)) 27); have p1' := oa_alloc (oa_below p1 hb2 (oa_lt p1)) (.cells (blk (tagOf h 0#128 cs ds)) 27); have p2 := objAt_alloc_at w2 (.cells (blk (tagOf h 0#128 cs ds)) 27) _ rfl; have bb := hb2.trans ((Below.refl _ _).alloc hb2.size (.cells (blk (tagOf h 0#128 cs ds)) 27)); have B2 := Lib.hid (B1.out.trans (bb.mono B1.out.size)); have hc2 := Lib.hid (stab_rowOf _ _ _ _ _ bb hc1.out); have hd2 := Lib.hid (stab_rowOf _ _ _ _ _ bb hd1.out); clear hb2 bb p0 p1 B1 hc1 hd1))
        have hB0 := B2.out
        have hc := hc2.out
        have hrd := hd2.out
        have p0 := p0'
        have p1 := p1'
        clear B2 hc2 hd2 p0' p1' k1 k2
        generalize hW0 : w2.alloc (.cells (blk (tagOf h 0#128 cs ds)) 27) = W0 at p0 p1 p2 hB0 hc hrd ⊢
        generalize w2.heap.size = N at p2 ⊢
        clear hW0
        refine wp_region_rel (l := [_, _, _, _, _, _, _, _, _, _, _, _, _, _, _, _]) (last := _) (fun w' => Hid (Below W0.heap.size W0 w'))
          [isv (.agg (blk h)), isv (.agg (blk m)), isv (.slice pc cs.length cc), isv (.slice pd ds.length cd), isv (.agg (blk (tagOf h m cs ds))), isv (.agg (blk (tagOf h 0#128 cs ds))), isv (.agg (blk m)), isv (.agg (blk (tagOf h m cs ds))), isv (.bool true), isv (.bool true), isv (.agg (blk h)), isv (.agg (blk e0)), isv (.agg (blk (e0))), isv (.agg (blk e0)), isv (.bool true), isv (.bool true)]
          (by kernel_rfl) (by kernel_rfl) (Lib.hid ((Below.refl _ _).drew)) (fun _ _ hb hS => held0 hb hS) ?rstab ?rops ?rlast
        case rstab => exact stabs_cons (stab_isv _) (stabs_cons (stab_isv _) (stabs_cons (stab_isv _) (stabs_cons (stab_isv _) (stabs_cons (stab_isv _) (stabs_cons (stab_isv _) (stabs_cons (stab_isv _) (stabs_cons (stab_isv _) (stabs_cons (stab_isv _) (stabs_cons (stab_isv _) (stabs_cons (stab_isv _) (stabs_cons (stab_isv _) (stabs_cons (stab_isv _) (stabs_cons (stab_isv _) (stabs_cons (stab_isv _) (stabs_cons (stab_isv _) stabs_nil)))))))))))))))
        case rops =>
          refine ⟨?_, ?_, ?_, ?_, ?_, ?_, ?_, ?_, ?_, ?_, ?_, ?_, ?_, ?_, ?_, ?_, trivial⟩
          · intro u w' hS hd
            have p0' := oa_below p0 hS.out (oa_lt p0)
            refine opV_val (v := .agg (blk h)) (by rfl) ?_ rfl
            simp only [frameOf, Act.put, List.setIfInBounds_toArray, List.set_cons_zero, List.set_cons_succ]
            go_simp
          · intro u w' hS hd
            have p1' := oa_below p1 hS.out (oa_lt p1)
            refine opV_val (v := .agg (blk m)) (by rfl) ?_ rfl
            simp only [frameOf, Act.put, List.setIfInBounds_toArray, List.set_cons_zero, List.set_cons_succ]
            go_simp
          · intro u w' hS hd
            refine opV_val (v := .slice pc cs.length cc) (by rfl) ?_ rfl
            simp only [frameOf, Act.put, List.setIfInBounds_toArray, List.set_cons_zero, List.set_cons_succ]
            go_simp
          · intro u w' hS hd
            refine opV_val (v := .slice pd ds.length cd) (by rfl) ?_ rfl
            simp only [frameOf, Act.put, List.setIfInBounds_toArray, List.set_cons_zero, List.set_cons_succ]
            go_simp
          · intro u w' hS hd
            have d0 : u 0 = .agg (blk h) := hd ⟨0, .data⟩ (by simp) rfl
            have d1 : u 1 = .agg (blk m) := hd ⟨1, .data⟩ (by simp) rfl
            have d2 : u 2 = .slice pc cs.length cc := hd ⟨2, .data⟩ (by simp) rfl
            have d3 : u 3 = .slice pd ds.length cd := hd ⟨3, .data⟩ (by simp) rfl
            refine opV_callB (f := 39) (args := #[.agg (blk h), .agg (blk m), .slice pc cs.length cc, .slice pd ds.length cd]) (by rfl) ?_ (authI_any h m cs ds (.slice pc cs.length cc) (.slice pd ds.length cd) w' (stab_rowOf _ _ _ _ _ hS.out hc) (stab_rowOf _ _ _ _ _ hS.out hrd) hcl hdl)
            simp only [frameOf, Act.put, List.setIfInBounds_toArray, List.set_cons_zero, List.set_cons_succ]
            go_simp
          · intro u w' hS hd
            have p2' := oa_below p2 hS.out (oa_lt p2)
            refine opV_val (v := .agg (blk (tagOf h 0#128 cs ds))) (by rfl) ?_ rfl
            simp only [frameOf, Act.put, List.setIfInBounds_toArray, List.set_cons_zero, List.set_cons_succ]
            go_simp
          · intro u w' hS hd
            have p1' := oa_below p1 hS.out (oa_lt p1)
            refine opV_val (v := .agg (blk m)) (by rfl) ?_ rfl
            simp only [frameOf, Act.put, List.setIfInBounds_toArray, List.set_cons_zero, List.set_cons_succ]
            go_simp
          · intro u w' hS hd
            have d5 : u 5 = .agg (blk (tagOf h 0#128 cs ds)) := hd ⟨5, .data⟩ (by simp) rfl
            have d6 : u 6 = .agg (blk m) := hd ⟨6, .data⟩ (by simp) rfl
            refine opV_callB (f := 27) (args := #[.agg (blk (tagOf h 0#128 cs ds)), .agg (blk m)]) (by rfl) ?_ (tag_mask h m cs ds ▸ lxor_any (tagOf h 0#128 cs ds) m w')
            simp only [frameOf, Act.put, List.setIfInBounds_toArray, List.set_cons_zero, List.set_cons_succ]
            go_simp
          · intro u w' hS hd
            have d4 : u 4 = .agg (blk (tagOf h m cs ds)) := hd ⟨4, .data⟩ (by simp) rfl
            have d7 : u 7 = .agg (blk (tagOf h m cs ds)) := hd ⟨7, .data⟩ (by simp) rfl
            have t0 : weq (tagOf h m cs ds) (tagOf h m cs ds) = true := weq_self _
            refine opV_val (v := .bool true) (by rfl) ?_ rfl
            simp only [frameOf, Act.put, List.setIfInBounds_toArray, List.set_cons_zero, List.set_cons_succ]
            go_simp
          · intro u w' hS hd
            have d8 : u 8 = .bool true := hd ⟨8, .data⟩ (by simp) rfl
            refine opV_val (v := .bool true) (by rfl) ?_ rfl
            simp only [frameOf, Act.put, List.setIfInBounds_toArray, List.set_cons_zero, List.set_cons_succ]
            go_simp
          · intro u w' hS hd
            have d9 : u 9 = .bool true := hd ⟨9, .guard⟩ (by simp) rfl
            have p0' := oa_below p0 hS.out (oa_lt p0)
            refine opV_val (v := .agg (blk h)) (by simp [Region.wanted, yielded, frameOf, Act.put, d9]) ?_ rfl
            simp only [frameOf, Act.put, List.setIfInBounds_toArray, List.set_cons_zero, List.set_cons_succ]
            go_simp
          · intro u w' hS hd
            have d9 : u 9 = .bool true := hd ⟨9, .guard⟩ (by simp) rfl
            refine opV_callB (f := 26) (args := #[]) (by simp [Region.wanted, yielded, frameOf, Act.put, d9]) ?_ (one_any w')
            simp only [frameOf, Act.put, List.setIfInBounds_toArray, List.set_cons_zero, List.set_cons_succ]
            go_simp
          · intro u w' hS hd
            have d10 : u 10 = .agg (blk h) := hd ⟨10, .data⟩ (by simp) rfl
            have d11 : u 11 = .agg (blk e0) := hd ⟨11, .data⟩ (by simp) rfl
            have d9 : u 9 = .bool true := hd ⟨9, .guard⟩ (by simp) rfl
            refine opV_callB (f := 39) (args := #[.agg (blk h), .agg (blk e0), .slice none 0 0, .slice none 0 0]) (by simp [Region.wanted, yielded, frameOf, Act.put, d9]) ?_ (tag_none_call h w')
            simp only [frameOf, Act.put, List.setIfInBounds_toArray, List.set_cons_zero, List.set_cons_succ]
            go_simp
          · intro u w' hS hd
            have d9 : u 9 = .bool true := hd ⟨9, .guard⟩ (by simp) rfl
            refine opV_callB (f := 26) (args := #[]) (by simp [Region.wanted, yielded, frameOf, Act.put, d9]) ?_ (one_any w')
            simp only [frameOf, Act.put, List.setIfInBounds_toArray, List.set_cons_zero, List.set_cons_succ]
            go_simp
          · intro u w' hS hd
            have d12 : u 12 = .agg (blk (e0)) := hd ⟨12, .data⟩ (by simp) rfl
            have d13 : u 13 = .agg (blk e0) := hd ⟨13, .data⟩ (by simp) rfl
            have d9 : u 9 = .bool true := hd ⟨9, .guard⟩ (by simp) rfl
            have t0 : weq (e0) (e0) = true := weq_self _
            refine opV_val (v := .bool true) (by simp [Region.wanted, yielded, frameOf, Act.put, d9]) ?_ rfl
            simp only [frameOf, Act.put, List.setIfInBounds_toArray, List.set_cons_zero, List.set_cons_succ]
            go_simp
          · intro u w' hS hd
            have d9 : u 9 = .bool true := hd ⟨9, .data⟩ (by simp) rfl
            have d14 : u 14 = .bool true := hd ⟨14, .data⟩ (by simp) rfl
            refine opV_val (v := .bool true) (by rfl) ?_ rfl
            simp only [frameOf, Act.put, List.setIfInBounds_toArray, List.set_cons_zero, List.set_cons_succ]
            go_simp
        case rlast =>
          intro u w1 hS hV
          have d15 : u 15 = .bool true := hV 15 (by decide)
          simp only [frameOf, Act.put, List.setIfInBounds_toArray, List.set_cons_zero, List.set_cons_succ]
          simp only [wpOp, List.length_cons, List.length_nil, Nat.zero_add, Nat.reduceAdd]
          go_simp
          refine .inl ?_
          go_wp2
          go_ret
          exact ⟨rfl, hB0.trans (hS.out.mono hB0.size)⟩
    · have k2 : 2147483647 < (ds.length : Int) := by omega
      go_enter Try.func22, Try.ntmps22
      go_wp2
      go_ret
      exact ⟨rfl, hB0⟩
  · have k1 : 2147483647 < (cs.length : Int) := by omega
    go_enter Try.func22, Try.ntmps22
    go_wp2
    go_ret
    exact ⟨rfl, hB0⟩
end Go.Proofs.Ytdaebcaokoajjaa
