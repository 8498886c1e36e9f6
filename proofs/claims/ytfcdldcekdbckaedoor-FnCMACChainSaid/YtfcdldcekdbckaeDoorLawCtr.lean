/- The law: bytes at an offset are encrypted as those that stand there behind others. -/
import Derived.Test.YtfcdldcekdbckaeDoorCtr3
namespace Go.Proofs.YtfcdldcekdbckaeDoor
open Go Go.RowKit Gf

theorem rowsOf_one {bs : List (BitVec 8)} {v : Value} {w : World} (h : rowOf 0 bs v w) {N : Nat} (hN : N = w.heap.size) : rowsOf 0 [bs] (.slice (some ⟨N, 0, none⟩) 1 1) (w.alloc (.cells #[v] 22)) := by
  subst hN
  have hb : Below w.heap.size w (w.alloc (.cells #[v] 22)) := (Below.refl _ _).alloc (Nat.le_refl _) _
  exact rowsOf_mk (vs := [v]) (inp := [bs]) (objAt_alloc_at w (.cells #[v] 22) _ rfl) (Nat.zero_le _) (by simp) (fun i cs hi => by
    match i, hi with
    | 0, hi =>
      obtain rfl : bs = cs := by simpa using hi
      exact ⟨v, rfl, stab_rowOf _ _ _ _ _ hb h⟩
    | i + 1, hi => simp at hi)
theorem total_two (xs bs : List (BitVec 8)) : total [xs, bs] = xs.length + bs.length := by simp [total]
theorem rowsOf_two {xs bs : List (BitVec 8)} {u v : Value} {w : World} (h : rowOf 0 xs u w) (h' : rowOf 0 bs v w) {N : Nat} (hN : N = w.heap.size) : rowsOf 0 [xs, bs] (.slice (some ⟨N, 0, none⟩) 2 2) (w.alloc (.cells #[u, v] 22)) := by
  subst hN
  have hb : Below w.heap.size w (w.alloc (.cells #[u, v] 22)) := (Below.refl _ _).alloc (Nat.le_refl _) _
  exact rowsOf_mk (vs := [u, v]) (inp := [xs, bs]) (objAt_alloc_at w (.cells #[u, v] 22) _ rfl) (Nat.zero_le _) (by simp) (fun i cs hi => by
    match i, hi with
    | 0, hi =>
      obtain rfl : xs = cs := by simpa using hi
      exact ⟨u, rfl, stab_rowOf _ _ _ _ _ hb h⟩
    | 1, hi =>
      obtain rfl : bs = cs := by simpa using hi
      exact ⟨v, rfl, stab_rowOf _ _ _ _ _ hb h'⟩
    | i + 2, hi => simp at hi)
theorem rowOf_zeros (w : World) (n : Nat) (hn : n ≤ 281474976710656) : rowOf 0 (List.replicate n 0#8) (.slice (some ⟨w.heap.size, 0, none⟩) n n) (w.alloc (.cells (bcells (List.replicate n 0#8)).toArray 5)) := by
  have h := rowOf_obj (n0 := 0) (c := n) (objAt_alloc_at w (.cells (bcells (List.replicate n 0#8)).toArray 5) _ rfl) (bytesIn_all (List.replicate n 0#8)) (Nat.zero_le _) (by rw [List.length_replicate]; exact Nat.le_refl _) (by omega)
  rwa [List.length_replicate] at h
/-- Bytes and true. -/
def tupP (bs : List (BitVec 8)) : Value → World → Prop := fun u w => ∃ v, u = .tuple #[v, .bool true] ∧ rowOf 0 bs v w
theorem stab_tupP (bs : List (BitVec 8)) : Stab (tupP bs) := by
  rintro v w w' hb ⟨u, h1, h2⟩
  exact ⟨u, h1, stab_rowOf _ _ _ _ _ hb h2⟩
theorem total_one (bs : List (BitVec 8)) : total [bs] = bs.length := by simp [total]
def TrueP (w : World) (e : Ending) (w' : World) : Prop := e = .returned (.bool true) ∧ Below w.heap.size w w'
set_option maxRecDepth 100000 in
set_option maxHeartbeats 4000000 in
theorem ctrat_out (ks bs : List (BitVec 8)) (x : BitVec 128) (off : Int) (vk vb : Value) (w : World) (hrk : rowOf 0 ks vk w) (hrb : rowOf 0 bs vb w) (h : 2147483647 < ks.length ∨ 2147483647 < bs.length ∨ keyB ks.length = false ∨ 16384 < bs.length ∨ off < 0 ∨ 8192 < off) :
    Calls Tryd.prog 4 #[vk, .agg (blk x), vb, .int .i64 off] w (TrueP w) := by
  have b1 : Below w.heap.size w (w.alloc (.cells (blk x) 23)) := (Below.refl _ w).alloc (Nat.le_refl _) _
  have gK := isKey_any ks vk _ (stab_rowOf _ _ _ _ _ b1 hrk)
  have B1 := Lib.hid b1
  have HB := Lib.hid (stab_rowOf _ _ _ _ _ b1 hrb)
  obtain ⟨pk, ck, rfl⟩ := hrk.slice
  obtain ⟨pb, cb, rfl⟩ := hrb.slice
  clear hrk hrb b1
  by_cases h1 : 2147483647 < ks.length
  · have h1' : 2147483647 < (ks.length : Int) := by omega
    clear h
    go_enter Tryd.func4, Tryd.ntmps4
    go_wp2_with (fail)
    go_ret
    exact ⟨rfl, B1.out⟩
  have h1' : ¬ 2147483647 < (ks.length : Int) := by omega
  by_cases h2 : 2147483647 < bs.length
  · have h2' : 2147483647 < (bs.length : Int) := by omega
    clear h
    go_enter Tryd.func4, Tryd.ntmps4
    go_wp2_with (fail)
    go_ret
    exact ⟨rfl, B1.out⟩
  have h2' : ¬ 2147483647 < (bs.length : Int) := by omega
  cases h3 : keyB ks.length with
  | false =>
    rw [h3] at gK
    clear h h3
    go_enter Tryd.func4, Tryd.ntmps4
    go_wp2_with (go_at_call 5; (with_reducible refine gK.mono ?_); rintro e w2 ⟨rfl, hb2⟩; have HB2 := Lib.hid hb2; clear hb2)
    go_ret
    exact ⟨rfl, B1.out.trans (HB2.out.mono (by simp))⟩
  | true =>
    rw [h3] at gK
    have h' : 16384 < bs.length ∨ off < 0 ∨ 8192 < off := by
      rw [h3] at h
      rcases h with h | h | h | h
      · omega
      · omega
      · cases h
      · exact h
    clear h h3
    go_enter Tryd.func4, Tryd.ntmps4
    go_wp2_with (go_at_call 5; (with_reducible refine gK.mono ?_); rintro e w2 ⟨rfl, hb2⟩; have HB2 := Lib.hid hb2; clear hb2)
    have hb02 := B1.out.trans (HB2.out.mono (by simp))
    have b3 : Below w2.heap.size w2 (w2.alloc (.cells #[.slice pb bs.length cb] 22)) := (Below.refl _ _).alloc (Nat.le_refl _) _
    have gF := few_any [bs] _ _ (rowsOf_one (stab_rowOf _ _ _ _ _ HB2.out HB.out) rfl)
    rw [total_one] at gF
    have HB3 := Lib.hid (hb02.trans (b3.mono hb02.size))
    clear hb02 b3
    by_cases h4 : bs.length ≤ 16384
    · rw [decide_eq_true h4] at gF
      by_cases h5 : off < 0
      · clear h'
        go_wp2_with (go_at_call 6; (with_reducible refine gF.mono ?_); rintro e w4 ⟨rfl, hb4⟩; have HB4 := Lib.hid hb4; clear hb4)
        go_ret
        exact ⟨rfl, HB3.out.trans (HB4.out.mono HB3.out.size)⟩
      · have h6 : 8192 < off := by omega
        clear h'
        go_wp2_with (go_at_call 6; (with_reducible refine gF.mono ?_); rintro e w4 ⟨rfl, hb4⟩; have HB4 := Lib.hid hb4; clear hb4)
        go_ret
        exact ⟨rfl, HB3.out.trans (HB4.out.mono HB3.out.size)⟩
    · rw [decide_eq_false h4] at gF
      clear h'
      go_wp2_with (go_at_call 6; (with_reducible refine gF.mono ?_); rintro e w4 ⟨rfl, hb4⟩; have HB4 := Lib.hid hb4; clear hb4)
      go_ret
      exact ⟨rfl, HB3.out.trans (HB4.out.mono HB3.out.size)⟩

set_option maxRecDepth 100000 in
set_option maxHeartbeats 4000000 in
theorem ctrat_in (T : Tab) (ks bs : List (BitVec 8)) (x : BitVec 128) (off : Nat) (vk vb : Value) (w : World) (hT : TabAt T w) (hrk : rowOf 0 ks vk w) (hrb : rowOf 0 bs vb w) (hk : isKey ks) (hbl : bs.length ≤ 16384) (hof : off ≤ 8192) :
    Calls Tryd.prog 4 #[vk, .agg (blk x), vb, .int .i64 (off : Int)] w (TrueP w) := by
  have b1 : Below w.heap.size w (w.alloc (.cells (blk x) 23)) := (Below.refl _ w).alloc (Nat.le_refl _) _
  have gK := isKey_any ks vk _ (stab_rowOf _ _ _ _ _ b1 hrk)
  rw [show keyB ks.length = true by unfold keyB; unfold isKey at hk; simpa using hk] at gK
  have HT := Lib.hid hT
  have HRK := Lib.hid hrk
  have HRB := Lib.hid hrb
  have HI1 := Lib.hid (objAt_alloc_at w (.cells (blk x) 23) _ rfl)
  have B1 := Lib.hid b1
  obtain ⟨pk, ck, rfl⟩ := hrk.slice
  obtain ⟨pb, cb, rfl⟩ := hrb.slice
  have h1' : ¬ 2147483647 < (ks.length : Int) := by unfold isKey at hk; omega
  have h2' : ¬ 2147483647 < (bs.length : Int) := by omega
  have h3' : ¬ (off : Int) < 0 := by omega
  have h4' : ¬ 8192 < (off : Int) := by omega
  have eo : IntKind.u64.wrap (off : Int) = (off : Int) := by rw [IntKind.wrap_u64]; omega
  clear hrk hrb b1 hT
  go_enter Tryd.func4, Tryd.ntmps4
  go_wp2_with (go_at_call 5; (with_reducible refine gK.mono ?_); rintro e w2 ⟨rfl, hb2⟩)
  have hb02 := B1.out.trans (hb2.mono (by simp))
  have b3 : Below w2.heap.size w2 (w2.alloc (.cells #[.slice pb bs.length cb] 22)) := (Below.refl _ _).alloc (Nat.le_refl _) _
  have gF := few_any [bs] _ _ (rowsOf_one (stab_rowOf _ _ _ _ _ hb02 HRB.out) rfl)
  rw [total_one, decide_eq_true hbl] at gF
  have HB3 := Lib.hid (hb02.trans (b3.mono hb02.size))
  have HI3 := Lib.hid (oa_below HI1.out (hb2.trans (b3.mono hb2.size)) (oa_lt HI1.out))
  clear hb02 hb2 gK HI1 B1
  generalize w2.alloc (.cells #[.slice pb bs.length cb] 22) = w3 at *
  clear b3
  go_wp2_with (go_at_call 6; (with_reducible refine gF.mono ?_); rintro e w4 ⟨rfl, hb4⟩; have hi4 := oa_below HI3.out hb4 (oa_lt HI3.out))
  have hb04 := HB3.out.trans (hb4.mono HB3.out.size)
  have gA := ctrAt_any T ks bs x off _ _ w4 hk (HT.out.below hb04 HT.out.sz) (stab_rowOf _ _ _ _ _ hb04 HRK.out) (stab_rowOf _ _ _ _ _ hb04 HRB.out) (by omega) (by omega)
  refine gA.mono ?_
  rintro e w5 ⟨v5, rfl, hr5, hb5⟩
  have hb05 := hb04.trans (hb5.mono hb04.size)
  have HI5 := Lib.hid (oa_below hi4 hb5 (oa_lt hi4))
  have HT5 := Lib.hid (HT.out.below hb05 HT.out.sz)
  have HK5 := Lib.hid (stab_rowOf _ _ _ _ _ hb05 HRK.out)
  have HB5 := Lib.hid (stab_rowOf _ _ _ _ _ hb05 HRB.out)
  have HV5 := Lib.hid hr5
  have HW5 := Lib.hid hb05
  clear hb05 hr5 hb5 hb04 hb4 hi4 gA gF HI3 HB3 HT HRK HRB
  go_wp2_with (fail)
  -- REGION
  refine wp_region_rel (l := [_, _, _, _, _, _, _, _, _, _, _]) (last := _) (fun w' => objAt w' w.heap.size = some (.cells (blk x) 23 (0, 0)) ∧ rowOf 0 ks (.slice pk ks.length ck) w' ∧ rowOf 0 bs (.slice pb bs.length cb) w' ∧ TabAt T w' ∧ rowOf 0 (ctrL (ciph T ks) (ivOf x) off bs) v5 w' ∧ Hid (Below w.heap.size w w'))
    [isv (.slice pk ks.length ck), isv (.agg (blk x)), isv (.int .i64 (off : Int)), rowOf 0 (List.replicate off 0#8), isv (.slice pb bs.length cb), rowsOf 0 [(List.replicate off 0#8), bs], tupP (ctrL (ciph T ks) (ivOf x) 0 [(List.replicate off 0#8), bs].flatten), tupP (ctrL (ciph T ks) (ivOf x) 0 [(List.replicate off 0#8), bs].flatten), rowOf 0 (ctrL (ciph T ks) (ivOf x) 0 [(List.replicate off 0#8), bs].flatten), isv (.bool true), rowOf 0 (ctrL (ciph T ks) (ivOf x) 0 [(List.replicate off 0#8), bs].flatten)]
    (by kernel_rfl) (by kernel_rfl) ⟨HI5.out, HK5.out, HB5.out, HT5.out.drewN 1, HV5.out, Lib.hid HW5.out.drew⟩ (fun w1 w2 hb hS => ⟨oa_below hS.1 hb (oa_lt hS.1), stab_rowOf _ _ _ _ _ hb hS.2.1, stab_rowOf _ _ _ _ _ hb hS.2.2.1, hS.2.2.2.1.below hb hS.2.2.2.1.sz, stab_rowOf _ _ _ _ _ hb hS.2.2.2.2.1, Lib.hid (hS.2.2.2.2.2.out.trans (hb.mono hS.2.2.2.2.2.out.size))⟩) ?rstab ?rops ?rlast
  case rstab => exact stabs_cons (stab_isv _) (stabs_cons (stab_isv _) (stabs_cons (stab_isv _) (stabs_cons (stab_rowOf _ _) (stabs_cons (stab_isv _) (stabs_cons (stab_rowsOf _ _) (stabs_cons (stab_tupP _) (stabs_cons (stab_tupP _) (stabs_cons (stab_rowOf _ _) (stabs_cons (stab_isv _) (stabs_cons (stab_rowOf _ _) stabs_nil))))))))))
  case rops =>
    refine ⟨?_, ?_, ?_, ?_, ?_, ?_, ?_, ?_, ?_, ?_, ?_, trivial⟩
    · intro u w' hS hd
      refine opV_val (v := .slice pk ks.length ck) (by rfl) ?_ rfl
      simp only [frameOf, Act.put, List.setIfInBounds_toArray, List.set_cons_zero, List.set_cons_succ]
      go_simp
    · intro u w' hS hd
      obtain ⟨hS1, hS2, hS3, hS4, hS5⟩ := hS
      clear hS2 hS3 hS4 hS5
      refine opV_val (v := .agg (blk x)) (by rfl) ?_ rfl
      simp only [frameOf, Act.put, List.setIfInBounds_toArray, List.set_cons_zero, List.set_cons_succ]
      go_simp
    · intro u w' hS hd
      refine opV_val (v := .int .i64 (off : Int)) (by rfl) ?_ rfl
      simp only [frameOf, Act.put, List.setIfInBounds_toArray, List.set_cons_zero, List.set_cons_succ]
      go_simp
    · intro u w' hS hd
      have d2 : u 2 = .int .i64 (off : Int) := hd ⟨2, .data⟩ (by simp) rfl
      have hmk := run_makeB w' off off (by omega) (Nat.le_refl _)
      refine opV_make (v := .slice (some ⟨w'.heap.size, 0, none⟩) off off) (w' := w'.alloc (.cells (bcells (List.replicate off 0#8)).toArray 5)) (by rfl) ?_ ((Below.refl _ _).alloc (Nat.le_refl _) _) (rowOf_zeros w' off (by omega))
      simp only [frameOf, Act.put, List.setIfInBounds_toArray, List.set_cons_zero, List.set_cons_succ]
      go_simp
    · intro u w' hS hd
      refine opV_val (v := .slice pb bs.length cb) (by rfl) ?_ rfl
      simp only [frameOf, Act.put, List.setIfInBounds_toArray, List.set_cons_zero, List.set_cons_succ]
      go_simp
    · intro u w' hS hd
      have d3 : (rowOf 0 (List.replicate off 0#8)) (u 3) w' := hd ⟨3, .data⟩ (by simp) rfl
      have d4 : u 4 = .slice pb bs.length cb := hd ⟨4, .data⟩ (by simp) rfl
      obtain ⟨p3, c3, e3⟩ := d3.slice
      rw [e3, List.length_replicate] at d3
      refine opV_make (v := .slice (some ⟨w'.heap.size, 0, none⟩) 2 2) (w' := w'.alloc (.cells #[.slice p3 off c3, .slice pb bs.length cb] 22)) (by rfl) ?_ ((Below.refl _ _).alloc (Nat.le_refl _) _) (rowsOf_two d3 hS.2.2.1 rfl)
      simp only [frameOf, Act.put, List.setIfInBounds_toArray, List.set_cons_zero, List.set_cons_succ]
      rw [e3, d4, List.length_replicate]; go_simp
    · intro u w' hS hd
      have d0 : u 0 = .slice pk ks.length ck := hd ⟨0, .data⟩ (by simp) rfl
      have d1 : u 1 = .agg (blk x) := hd ⟨1, .data⟩ (by simp) rfl
      have d5 : (rowsOf 0 [(List.replicate off 0#8), bs]) (u 5) w' := hd ⟨5, .data⟩ (by simp) rfl
      refine opV_call (f := 12) (args := #[.slice pk ks.length ck, .agg (blk x), u 5]) (by rfl) ?_ ((ctr_any T ks _ x _ _ w' hk hS.2.2.2.1 hS.2.1 d5 (by rw [total_two, List.length_replicate]; omega)).mono fun e w2 he => (by obtain ⟨v', he, hr, hb⟩ := he; exact ⟨_, he, hb, v', rfl, hr⟩))
      simp only [frameOf, Act.put, List.setIfInBounds_toArray, List.set_cons_zero, List.set_cons_succ]
      go_simp
    · intro u w' hS hd
      have d6 : (tupP (ctrL (ciph T ks) (ivOf x) 0 [(List.replicate off 0#8), bs].flatten)) (u 6) w' := hd ⟨6, .data⟩ (by simp) rfl
      refine opV_val (v := u 6) (by rfl) ?_ d6
      simp only [frameOf, Act.put, List.setIfInBounds_toArray, List.set_cons_zero, List.set_cons_succ]
      go_simp
    · intro u w' hS hd
      have d7 : (tupP (ctrL (ciph T ks) (ivOf x) 0 [(List.replicate off 0#8), bs].flatten)) (u 7) w' := hd ⟨7, .data⟩ (by simp) rfl
      obtain ⟨v7, e7, h7⟩ := d7
      refine opV_val (v := v7) (by rfl) ?_ h7
      simp only [frameOf, Act.put, List.setIfInBounds_toArray, List.set_cons_zero, List.set_cons_succ]
      rw [e7]; go_simp
    · intro u w' hS hd
      have d7 : (tupP (ctrL (ciph T ks) (ivOf x) 0 [(List.replicate off 0#8), bs].flatten)) (u 7) w' := hd ⟨7, .data⟩ (by simp) rfl
      obtain ⟨v7, e7, h7⟩ := d7
      refine opV_val (v := .bool true) (by rfl) ?_ rfl
      simp only [frameOf, Act.put, List.setIfInBounds_toArray, List.set_cons_zero, List.set_cons_succ]
      rw [e7]; go_simp
    · intro u w' hS hd
      have d8 : (rowOf 0 (ctrL (ciph T ks) (ivOf x) 0 [(List.replicate off 0#8), bs].flatten)) (u 8) w' := hd ⟨8, .data⟩ (by simp) rfl
      refine opV_val (v := u 8) (by rfl) ?_ d8
      simp only [frameOf, Act.put, List.setIfInBounds_toArray, List.set_cons_zero, List.set_cons_succ]
      go_simp
  case rlast =>
    intro u w1 hS hV
    have d9 : u 9 = .bool true := hV 9 (by decide)
    have d10 : rowOf 0 (ctrL (ciph T ks) (ivOf x) 0 [(List.replicate off 0#8), bs].flatten) (u 10) w1 := hV 10 (by decide)
    simp only [frameOf, Act.put, List.setIfInBounds_toArray, List.set_cons_zero, List.set_cons_succ]
    simp only [wpOp, List.length_cons, List.length_nil, Nat.zero_add, Nat.reduceAdd]
    go_simp
    refine .inl ?_
    clear hV
    have hv5 := hS.2.2.2.2.1
    have HW := Lib.hid hS.2.2.2.2.2.out
    clear hS
    have hZ : (List.replicate off (0#8)).length = off := List.length_replicate
    have hsplit : ctrL (ciph T ks) (ivOf x) 0 [List.replicate off 0#8, bs].flatten = ctrL (ciph T ks) (ivOf x) 0 (List.replicate off 0#8) ++ ctrL (ciph T ks) (ivOf x) off bs := by
      have h := ctrL_append (ciph T ks) (ivOf x) 0 (List.replicate off 0#8) bs
      rw [hZ, Nat.zero_add] at h
      rw [h]; simp
    rw [hsplit] at d10
    have hlen : (ctrL (ciph T ks) (ivOf x) 0 (List.replicate off 0#8) ++ ctrL (ciph T ks) (ivOf x) off bs).length = off + bs.length := by rw [List.length_append, ctrL_length, ctrL_length, hZ]
    obtain ⟨p10, c10, e10, hc10, hm10, h10⟩ := d10
    rw [hlen] at e10 hc10
    rw [e10]
    have hl0 : (ctrL (ciph T ks) (ivOf x) 0 (List.replicate off 0#8)).length = off := by rw [ctrL_length, hZ]
    have hl1 : (ctrL (ciph T ks) (ivOf x) off bs).length = bs.length := ctrL_length _ _ _ _
    have j1 : (off : Int) ≤ (off : Int) + (bs.length : Int) := by omega
    have j2 : 0 ≤ (off : Int) := by omega
    clear hZ hsplit d9
    by_cases hz : off + bs.length = 0
    · have hb0 : bs = [] := List.length_eq_zero_iff.1 (by omega)
      obtain rfl : off = 0 := by omega
      subst hb0
      clear hz hlen hl0 hl1 h10 e10 hc10 j1 j2
      have hv0 : rowOf 0 [] v5 w1 := hv5
      have GS := Lib.hid (fun (p : Option Addr) (c : Nat) (hc : (c : Int) ≤ 9223372036854775807) => same_any [] v5 (.slice p 0 c) w1 hv0 ⟨p, c, rfl, Nat.zero_le _, hc, .inl rfl⟩)
      clear hv5 hv0
      cases p10 with
      | none =>
        go_wp2_with (go_at_call 13; (with_reducible refine (GS.out _ _ (by omega)).mono ?_); rintro e w2 ⟨rfl, hb2⟩; have HB2 := Lib.hid hb2; clear hb2)
        all_goals
          go_ret
          exact ⟨rfl, HW.out.trans (HB2.out.mono HW.out.size)⟩
      | some a =>
        go_wp2_with (go_at_call 13; (with_reducible refine (GS.out _ _ (by omega)).mono ?_); rintro e w2 ⟨rfl, hb2⟩; have HB2 := Lib.hid hb2; clear hb2)
        all_goals
          go_ret
          exact ⟨rfl, HW.out.trans (HB2.out.mono HW.out.size)⟩
    · rcases h10 with h10 | ⟨ab, ao, rfl, _, hab, hcell⟩
      · rw [h10] at hlen; simp at hlen; omega
      obtain ⟨a', ha', pa'⟩ := if_addr ab ao off c10 (off + bs.length) (by omega) hc10
      have hdrop : rowOf 0 (ctrL (ciph T ks) (ivOf x) off bs) (.slice (some ⟨ab, a', none⟩) bs.length (c10 - off)) w1 := by
        refine ⟨_, c10 - off, by rw [hl1], by rw [hl1]; omega, by omega, ?_⟩
        by_cases hb : bs = []
        · subst hb; exact .inl rfl
        · have hp := List.length_pos_iff.2 hb
          refine .inr ⟨ab, a', rfl, Nat.zero_le _, hab, fun i y hy => ?_⟩
          have e := pa'.resolve_left (by omega)
          have := hcell (off + i) y (by rw [List.getElem?_append_right (by omega), hl0, Nat.add_sub_cancel_left]; exact hy)
          rw [e, Nat.add_assoc]
          exact this
      have gS := same_any _ v5 _ w1 hv5 hdrop
      have HGS := Lib.hid gS
      clear hlen hl0 hl1 hcell hdrop gS pa' hz e10
      go_wp2_with (go_at_call 13; (with_reducible refine HGS.out.mono ?_); rintro e w2 ⟨rfl, hb2⟩; have HB2 := Lib.hid hb2; clear hb2)
      go_ret
      exact ⟨rfl, HW.out.trans (HB2.out.mono HW.out.size)⟩
  -- REGION END
end Go.Proofs.YtfcdldcekdbckaeDoor
