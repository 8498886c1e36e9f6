/- The law: the hash with a block more takes this up. -/
import Derived.Test.YtdaebcaokoajjaaOwn
import Derived.Test.YtdaebcaokoajjaaPHash
import Derived.Test.YtdaebcaokoajjaaBlockOf
import Derived.Test.YtdaebcaokoajjaaLaws2
import Derived.Test.YtdaebcaokoajjaaFew
import Derived.Test.YtdaebcaokoajjaaOpen2
namespace Go.Proofs.Ytdaebcaokoajjaa
open Go Go.RowKit Gf

theorem ownB_nil {n0 : Nat} {w : World} (h : n0 ≤ w.heap.size) : ownB n0 [] (.slice (some ⟨w.heap.size, 0, none⟩) 0 0) (w.alloc (.cells #[] 5)) :=
  ⟨w.heap.size, #[], rfl, h, objAt_alloc_at _ _ _ rfl, Nat.le_refl _, Nat.zero_le _, fun i x hx => by simp at hx⟩
theorem bytesOf_slice {b : Nat} {x : BitVec 128} {t : TypeId} {fr : Nat × Nat} {w : World} (h : objAt w b = some (.cells (blk x) t fr)) : rowOf 0 (bytesOf x) (.slice (some ⟨b, 0, none⟩) 16 16) w := rowOf_blk h (Nat.zero_le _)
/-- A list of one row, in a block just made. -/
theorem rows_new1 {bs : List (BitVec 8)} {v : Value} {w : World} {N : Nat} (h : rowOf 0 bs v w) (hN : N = w.heap.size) : rowsOf 0 [bs] (.slice (some ⟨N, 0, none⟩) 1 1) (w.alloc (.cells #[v] 35)) :=
  rowsOf_one (objAt_alloc_at _ _ _ hN) (Nat.zero_le _) (stab_rowOf _ _ _ _ _ ((Below.refl _ _).alloc (Nat.le_refl _) _) h)
theorem total_one (bs : List (BitVec 8)) : total [bs] = bs.length := by simp [total]

set_option maxHeartbeats 4000000 in
theorem horner_end (key x : BitVec 128) (bs : List (BitVec 8)) (m : Nat) (hm : bs.length = 16 * m) (hfew : bs.length ≤ 16384) (p : Option Addr) (c : Nat) (w : World) (h : rowOf 0 bs (.slice p bs.length c) w) :
    Calls Try.prog 19 #[.agg (blk key), .slice p bs.length c, .agg (blk x)] w fun e w' => e = .returned (.bool true) ∧ Below w.heap.size w w' := by
  have q0 : objAt ((w.alloc (.cells (blk key) 27)).alloc (.cells (blk x) 27)) (w.heap.size) = some (.cells (blk key) 27 (0, 0)) := by simp [go_sem]
  have q1 : objAt ((w.alloc (.cells (blk key) 27)).alloc (.cells (blk x) 27)) (w.heap.size + 1) = some (.cells (blk x) 27 (0, 0)) := by simp [go_sem]
  have b0 : Below w.heap.size w ((w.alloc (.cells (blk key) 27)).alloc (.cells (blk x) 27)) := by go_grown
  have r0 := stab_rowOf _ _ _ _ _ b0 h
  have k1 : ¬ (2147483647 < (bs.length : Int)) := by omega
  have k2 : (bs.length : Int) % 16 = 0 := by omega
  have gf := few_any [bs] (.slice (some ⟨w.heap.size + 1 + 1, 0, none⟩) 1 1) _ (rows_new1 r0 (by simp))
  rw [total_one, decide_eq_true hfew] at gf
  have q0' := oa_alloc q0 (.cells #[.slice p bs.length c] 35)
  have q1' := oa_alloc q1 (.cells #[.slice p bs.length c] 35)
  have b0' := Lib.hid (b0.trans ((Below.refl _ _).alloc b0.size (.cells #[.slice p bs.length c] 35)))
  have r0' := Lib.hid (stab_rowOf _ _ _ _ _ ((Below.refl _ _).alloc (Nat.le_refl _) (.cells #[.slice p bs.length c] 35)) r0)
  have hm' := Lib.hid hm
  clear q0 q1 b0 r0 h hm
  go_enter Try.func19, Try.ntmps19
  go_wp2_with (first
    | (go_at_call 29; (with_reducible refine gf.mono ?_); rintro e w1 ⟨rfl, hb1⟩; have p0 := oa_below q0' hb1 (oa_lt q0'); have p1 := oa_below q1' hb1 (oa_lt q1'); have r1 := Lib.hid (stab_rowOf _ _ _ _ _ hb1 r0'.out); have B1 := Lib.hid (b0'.out.trans (hb1.mono b0'.out.size)); clear hb1 gf q0' q1' b0' r0')
    | (go_at_call 30; (with_reducible refine (ihash_row key [bs] _ _ (rows_new1 r1.out rfl) (by simp) (by simp; omega)).mono ?_); rintro e w2 ⟨v2, rfl, hb2, hr2⟩; have p0' := oa_below (oa_alloc p0 (.cells #[.slice p bs.length c] 35)) hb2 (oa_lt (oa_alloc p0 (.cells #[.slice p bs.length c] 35))); have p1' := oa_below (oa_alloc p1 (.cells #[.slice p bs.length c] 35)) hb2 (oa_lt (oa_alloc p1 (.cells #[.slice p bs.length c] 35))); have r2 := Lib.hid (stab_rowOf _ _ _ _ _ (((Below.refl w1.heap.size w1).alloc (Nat.le_refl _) (.cells #[.slice p bs.length c] 35)).trans (hb2.mono (by simp))) r1.out); have B2 := Lib.hid ((B1.out.trans ((Below.refl _ _).alloc B1.out.size (.cells #[.slice p bs.length c] 35))).trans (hb2.mono (by have := B1.out.size; simp; omega))); have hr2' := Lib.hid hr2; clear hb2 hr2 p0 p1 r1 B1)
    | (go_at_call 35; (with_reducible refine (blockOf_any (hashOf [bs] key) v2 _ (hr2'.out.mono (Nat.zero_le _))).mono ?_); rintro e w3 ⟨rfl, hb3⟩; have p0 := oa_alloc (oa_below p0' hb3 (oa_lt p0')) (.cells (blk (hashOf [bs] key)) 27); have p1 := oa_alloc (oa_below p1' hb3 (oa_lt p1')) (.cells (blk (hashOf [bs] key)) 27); have p2 := objAt_alloc_at w3 (.cells (blk (hashOf [bs] key)) 27) _ rfl; have r3 := Lib.hid (stab_rowOf _ _ _ _ _ (hb3.trans ((Below.refl _ _).alloc hb3.size (.cells (blk (hashOf [bs] key)) 27))) r2.out); have B3 := Lib.hid (B2.out.trans ((hb3.trans ((Below.refl _ _).alloc hb3.size (.cells (blk (hashOf [bs] key)) 27))).mono B2.out.size)); clear hb3 p0' p1' r2 B2 hr2'))
  have hr := r3.out
  have hB0 := B3.out
  have hm := hm'.out
  clear r3 B3 hm' k1 k2
  generalize hW0 : w3.alloc (.cells (blk (hashOf [bs] key)) 27) = W0 at p0 p1 p2 hr hB0 ⊢
  generalize w3.heap.size = N at p2 ⊢
  clear hW0
  refine wp_region_relw (l := [_, _, _, _, _, _, _, _, _, _, _, _, _, _, _, _]) (last := _) (fun w' => Hid (Below W0.heap.size W0 w'))
    [isv (.bool true), isv (.bool true), isv (.agg (blk key)), ownB W0.heap.size [], isv (.slice p bs.length c), ownB W0.heap.size (bs), isv (.slice (some ⟨w.heap.size + 1, 0, none⟩) 16 16), ownB W0.heap.size (bs ++ bytesOf x), rowsOf 0 [bs ++ bytesOf x], rowOf 0 (bytesOf (hashOf [bs ++ bytesOf x] key)), isv (.agg (blk (hashOf [bs] key))), isv (.agg (blk x)), isv (.agg (blk key)), isv (.agg (blk (gmul (hashOf [bs] key ^^^ x) key))), isv (.bool true), isv (.bool true)]
    (by kernel_rfl) (by kernel_rfl) (Lib.hid ((Below.refl _ _).drew)) (fun _ _ hb hS => held0 hb hS) ?rstab ?rops ?rlast
  case rstab => exact stabs_cons (stab_isv _) (stabs_cons (stab_isv _) (stabs_cons (stab_isv _) (stabs_cons (stab_ownB _ _) (stabs_cons (stab_isv _) (stabs_cons (stab_ownB _ _) (stabs_cons (stab_isv _) (stabs_cons (stab_ownB _ _) (stabs_cons (stab_rowsOf _ _) (stabs_cons (stab_rowOf _ _) (stabs_cons (stab_isv _) (stabs_cons (stab_isv _) (stabs_cons (stab_isv _) (stabs_cons (stab_isv _) (stabs_cons (stab_isv _) (stabs_cons (stab_isv _) stabs_nil)))))))))))))))
  case rops =>
    refine ⟨?_, ?_, ?_, ?_, ?_, ?_, ?_, ?_, ?_, ?_, ?_, ?_, ?_, ?_, ?_, ?_, trivial⟩
    · intro u w' hS hd
      refine .inl (opV_val (v := .bool true) (by rfl) ?_ rfl)
      simp only [frameOf, Act.put, List.setIfInBounds_toArray, List.set_cons_zero, List.set_cons_succ]
      go_simp
    · intro u w' hS hd
      have d0 : u 0 = .bool true := hd ⟨0, .data⟩ (by simp) rfl
      refine .inl (opV_val (v := .bool true) (by rfl) ?_ rfl)
      simp only [frameOf, Act.put, List.setIfInBounds_toArray, List.set_cons_zero, List.set_cons_succ]
      go_simp
    · intro u w' hS hd
      have d1 : u 1 = .bool true := hd ⟨1, .guard⟩ (by simp) rfl
      have p0' := oa_below p0 hS.out (oa_lt p0)
      refine .inl (opV_val (v := .agg (blk key)) (by simp [Region.wanted, yielded, frameOf, Act.put, d1]) ?_ rfl)
      simp only [frameOf, Act.put, List.setIfInBounds_toArray, List.set_cons_zero, List.set_cons_succ]
      go_simp
    · intro u w' hS hd
      have d1 : u 1 = .bool true := hd ⟨1, .guard⟩ (by simp) rfl
      refine .inl (opV_make (v := .slice (some ⟨w'.heap.size, 0, none⟩) 0 0) (w' := w'.alloc (.cells #[] 5)) (by simp [Region.wanted, yielded, frameOf, Act.put, d1]) ?_ ((Below.refl _ _).alloc (Nat.le_refl _) _) (ownB_nil hS.out.size))
      simp only [frameOf, Act.put, List.setIfInBounds_toArray, List.set_cons_zero, List.set_cons_succ]
      go_simp
    · intro u w' hS hd
      have d1 : u 1 = .bool true := hd ⟨1, .guard⟩ (by simp) rfl
      refine .inl (opV_val (v := .slice p bs.length c) (by simp [Region.wanted, yielded, frameOf, Act.put, d1]) ?_ rfl)
      simp only [frameOf, Act.put, List.setIfInBounds_toArray, List.set_cons_zero, List.set_cons_succ]
      go_simp
    · intro u w' hS hd
      have d3 : (ownB W0.heap.size []) (u 3) w' := hd ⟨3, .data⟩ (by simp) rfl
      have d4 : u 4 = .slice p bs.length c := hd ⟨4, .data⟩ (by simp) rfl
      have d1 : u 1 = .bool true := hd ⟨1, .guard⟩ (by simp) rfl
      obtain ⟨v5, W5, hrun5, ho5, hb5, hk5, _⟩ := run_app W0.heap.size ([]) (bs) (u 3) (.slice p bs.length c) 35 35 w' d3 (src_row (stab_rowOf _ _ _ _ _ hS.out hr)) hS.out.size (by first | omega | (simp; omega))
      rw [List.nil_append] at ho5
      refine .inr ⟨[0, 1, 2, 3, 4, 6, 10, 11, 12, 13], (by simp [Region.wanted, yielded, frameOf, Act.put, d1]), by kernel_rfl, v5, W5, ?_, (Lib.hid (hS.out.trans hb5)), ?_, ho5⟩
      · simp only [frameOf, Act.put, List.setIfInBounds_toArray, List.set_cons_zero, List.set_cons_succ]
        refine run_exec_append _ _ _ _ rfl _ _ ?_ ?_ hrun5
        all_goals go_simp
      · exact free_cons ((fun h => h)) (free_cons ((fun h => h)) (free_cons ((fun h => h)) (free_cons (fun h => hk5 [] _ (Nat.le_refl _) h) (free_cons ((fun h => h)) (free_cons ((fun h => h)) (free_cons ((fun h => h)) (free_cons ((fun h => h)) (free_cons ((fun h => h)) (free_cons ((fun h => h)) free_nil)))))))))
    · intro u w' hS hd
      have d1 : u 1 = .bool true := hd ⟨1, .guard⟩ (by simp) rfl
      have p1' := oa_below p1 hS.out (oa_lt p1)
      refine .inl (opV_val (v := .slice (some ⟨w.heap.size + 1, 0, none⟩) 16 16) (by simp [Region.wanted, yielded, frameOf, Act.put, d1]) ?_ rfl)
      simp only [frameOf, Act.put, List.setIfInBounds_toArray, List.set_cons_zero, List.set_cons_succ]
      go_simp
    · intro u w' hS hd
      have d5 : (ownB W0.heap.size (bs)) (u 5) w' := hd ⟨5, .data⟩ (by simp) rfl
      have d6 : u 6 = .slice (some ⟨w.heap.size + 1, 0, none⟩) 16 16 := hd ⟨6, .data⟩ (by simp) rfl
      have d1 : u 1 = .bool true := hd ⟨1, .guard⟩ (by simp) rfl
      have p1' := oa_below p1 hS.out (oa_lt p1)
      have hxl := bytesOf_length x
      obtain ⟨v7, W7, hrun7, ho7, hb7, hk7, _⟩ := run_app W0.heap.size (bs) (bytesOf x) (u 5) (.slice (some ⟨w.heap.size + 1, 0, none⟩) 16 16) 35 35 w' d5 (bytesOf_length x ▸ src_row (n0 := 0) (bytesOf_slice p1')) hS.out.size (by first | omega | (simp; omega))
      refine .inr ⟨[0, 1, 2, 3, 4, 5, 6, 10, 11, 12, 13], (by simp [Region.wanted, yielded, frameOf, Act.put, d1]), by kernel_rfl, v7, W7, ?_, (Lib.hid (hS.out.trans hb7)), ?_, ho7⟩
      · simp only [frameOf, Act.put, List.setIfInBounds_toArray, List.set_cons_zero, List.set_cons_succ]
        refine run_exec_append _ _ _ _ rfl _ _ ?_ ?_ hrun7
        all_goals go_simp
      · exact free_cons ((fun h => h)) (free_cons ((fun h => h)) (free_cons ((fun h => h)) (free_cons (fun h => hk7 [] _ (Nat.zero_le _) h) (free_cons ((fun h => h)) (free_cons (fun h => hk7 bs _ (Nat.le_refl _) h) (free_cons ((fun h => h)) (free_cons ((fun h => h)) (free_cons ((fun h => h)) (free_cons ((fun h => h)) (free_cons ((fun h => h)) free_nil))))))))))
    · intro u w' hS hd
      have d7 : (ownB W0.heap.size (bs ++ bytesOf x)) (u 7) w' := hd ⟨7, .data⟩ (by simp) rfl
      have d1 : u 1 = .bool true := hd ⟨1, .guard⟩ (by simp) rfl
      have r7 := d7.rowOf
      obtain ⟨p7, n7, c7, e7⟩ := rowOf_slice r7
      rw [e7] at r7
      refine .inl (opV_make (v := .slice (some ⟨w'.heap.size, 0, none⟩) 1 1) (w' := w'.alloc (.cells #[.slice p7 n7 c7] 35)) (by simp [Region.wanted, yielded, frameOf, Act.put, d1]) ?_ ((Below.refl _ _).alloc (Nat.le_refl _) _) (rowsOf_one (objAt_alloc_at _ _ _ rfl) (Nat.zero_le _) (stab_rowOf _ _ _ _ _ ((Below.refl _ _).alloc (Nat.le_refl _) _) (r7.mono (Nat.zero_le _)))))
      simp only [frameOf, Act.put, List.setIfInBounds_toArray, List.set_cons_zero, List.set_cons_succ]
      go_simp
    · intro u w' hS hd
      have d2 : u 2 = .agg (blk key) := hd ⟨2, .data⟩ (by simp) rfl
      have d8 : (rowsOf 0 [bs ++ bytesOf x]) (u 8) w' := hd ⟨8, .data⟩ (by simp) rfl
      have d1 : u 1 = .bool true := hd ⟨1, .guard⟩ (by simp) rfl
      refine .inl (opV_call (f := 30) (args := #[.agg (blk key), u 8]) (by simp [Region.wanted, yielded, frameOf, Act.put, d1]) ?_ ((ihash_row key [bs ++ bytesOf x] (u 8) w' d8 (by simp) (by simp [bytesOf]; omega)).mono fun e w2 ⟨v', he, hb, hr⟩ => ⟨v', he, hb, hr.mono (Nat.zero_le _)⟩))
      simp only [frameOf, Act.put, List.setIfInBounds_toArray, List.set_cons_zero, List.set_cons_succ]
      go_simp
    · intro u w' hS hd
      have d1 : u 1 = .bool true := hd ⟨1, .guard⟩ (by simp) rfl
      have p2' := oa_below p2 hS.out (oa_lt p2)
      refine .inl (opV_val (v := .agg (blk (hashOf [bs] key))) (by simp [Region.wanted, yielded, frameOf, Act.put, d1]) ?_ rfl)
      simp only [frameOf, Act.put, List.setIfInBounds_toArray, List.set_cons_zero, List.set_cons_succ]
      go_simp
    · intro u w' hS hd
      have d1 : u 1 = .bool true := hd ⟨1, .guard⟩ (by simp) rfl
      have p1' := oa_below p1 hS.out (oa_lt p1)
      refine .inl (opV_val (v := .agg (blk x)) (by simp [Region.wanted, yielded, frameOf, Act.put, d1]) ?_ rfl)
      simp only [frameOf, Act.put, List.setIfInBounds_toArray, List.set_cons_zero, List.set_cons_succ]
      go_simp
    · intro u w' hS hd
      have d1 : u 1 = .bool true := hd ⟨1, .guard⟩ (by simp) rfl
      have p0' := oa_below p0 hS.out (oa_lt p0)
      refine .inl (opV_val (v := .agg (blk key)) (by simp [Region.wanted, yielded, frameOf, Act.put, d1]) ?_ rfl)
      simp only [frameOf, Act.put, List.setIfInBounds_toArray, List.set_cons_zero, List.set_cons_succ]
      go_simp
    · intro u w' hS hd
      have d10 : u 10 = .agg (blk (hashOf [bs] key)) := hd ⟨10, .data⟩ (by simp) rfl
      have d11 : u 11 = .agg (blk x) := hd ⟨11, .data⟩ (by simp) rfl
      have d12 : u 12 = .agg (blk key) := hd ⟨12, .data⟩ (by simp) rfl
      have d1 : u 1 = .bool true := hd ⟨1, .guard⟩ (by simp) rfl
      refine .inl (opV_callB (f := 36) (args := #[.agg (blk (hashOf [bs] key)), .agg (blk x), .agg (blk key)]) (by simp [Region.wanted, yielded, frameOf, Act.put, d1]) ?_ (iupd_any (hashOf [bs] key) x key w'))
      simp only [frameOf, Act.put, List.setIfInBounds_toArray, List.set_cons_zero, List.set_cons_succ]
      go_simp
    · intro u w' hS hd
      have d9 : (rowOf 0 (bytesOf (hashOf [bs ++ bytesOf x] key))) (u 9) w' := hd ⟨9, .data⟩ (by simp) rfl
      have d13 : u 13 = .agg (blk (gmul (hashOf [bs] key ^^^ x) key)) := hd ⟨13, .data⟩ (by simp) rfl
      have d1 : u 1 = .bool true := hd ⟨1, .guard⟩ (by simp) rfl
      rw [horner bs x m hm key] at d9
      refine .inl (opV_callB (f := 33) (args := #[u 9, .agg (blk (gmul (hashOf [bs] key ^^^ x) key))]) (by simp [Region.wanted, yielded, frameOf, Act.put, d1]) ?_ (is_any (gmul (hashOf [bs] key ^^^ x) key) (u 9) w' d9))
      simp only [frameOf, Act.put, List.setIfInBounds_toArray, List.set_cons_zero, List.set_cons_succ]
      go_simp
    · intro u w' hS hd
      have d1 : u 1 = .bool true := hd ⟨1, .data⟩ (by simp) rfl
      have d14 : u 14 = .bool true := hd ⟨14, .data⟩ (by simp) rfl
      refine .inl (opV_val (v := .bool true) (by rfl) ?_ rfl)
      simp only [frameOf, Act.put, List.setIfInBounds_toArray, List.set_cons_zero, List.set_cons_succ]
      go_simp
  case rlast =>
    intro u w1 hS hV
    have d15 : u 15 = .bool true := hV 15 (by decide)
    simp only [frameOf, Act.put, List.setIfInBounds_toArray, List.set_cons_zero, List.set_cons_succ]
    simp only [wpOp, List.length_cons, List.length_nil, Nat.zero_add, Nat.reduceAdd]
    go_simp
    refine .inl ?_
    go_wp2
    go_ret
    exact ⟨rfl, hB0.trans (hS.out.mono hB0.size)⟩

set_option maxHeartbeats 1000000 in
theorem horner_is (key : BitVec 128) (bs : List (BitVec 8)) (v : Value) (x : BitVec 128) (w : World) (h : rowOf 0 bs v w) :
    Calls Try.prog 19 #[.agg (blk key), v, .agg (blk x)] w fun e w' => e = .returned (.bool true) ∧ Below w.heap.size w w' := by
  obtain ⟨p, c, rfl⟩ : ∃ p c, v = .slice p bs.length c := by
    obtain ⟨p, c, h, _⟩ := h
    exact ⟨p, c, h⟩
  have b0 : Below w.heap.size w ((w.alloc (.cells (blk key) 27)).alloc (.cells (blk x) 27)) := by go_grown
  by_cases hlen : bs.length ≤ 2147483647
  · have k1 : ¬ (2147483647 < (bs.length : Int)) := by omega
    by_cases hm : bs.length % 16 = 0
    · by_cases hfew : bs.length ≤ 16384
      · exact horner_end key x bs (bs.length / 16) (by omega) hfew p c w h
      · have k2 : (bs.length : Int) % 16 = 0 := by omega
        have gf := few_any [bs] (.slice (some ⟨w.heap.size + 1 + 1, 0, none⟩) 1 1) _ (rows_new1 (stab_rowOf _ _ _ _ _ b0 h) (by simp))
        rw [total_one, decide_eq_false hfew] at gf
        have b1 := Lib.hid (b0.trans ((Below.refl _ _).alloc b0.size (.cells #[.slice p bs.length c] 35)))
        clear b0 h
        go_enter Try.func19, Try.ntmps19
        go_wp2_with (go_at_call 29; (with_reducible refine gf.mono ?_); rintro e w1 ⟨rfl, hb1⟩; have B1 := Lib.hid (b1.out.trans (hb1.mono b1.out.size)); clear hb1 gf)
        go_ret
        exact ⟨rfl, B1.out⟩
    · have k2 : ¬ ((bs.length : Int) % 16 = 0) := by omega
      clear h
      go_enter Try.func19, Try.ntmps19
      go_wp2
      go_ret
      exact ⟨rfl, b0⟩
  · have k1 : 2147483647 < (bs.length : Int) := by omega
    clear h
    go_enter Try.func19, Try.ntmps19
    go_wp2
    go_ret
    exact ⟨rfl, b0⟩
end Go.Proofs.Ytdaebcaokoajjaa
