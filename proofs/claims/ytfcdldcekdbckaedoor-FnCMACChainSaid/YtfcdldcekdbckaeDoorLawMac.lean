/- The law of the code of whole blocks: blocks ahead of the last one are chained and added to it. -/
import Derived.Test.YtfcdldcekdbckaeDoorLawCtr
import Derived.Test.YtfcdldcekdbckaeDoorCbc3
import Derived.Test.YtfcdldcekdbckaeDoorOwn3
import Derived.Test.YtfcdldcekdbckaeDoorRelS
import Derived.Test.YtfcdldcekdbckaeDoorEq
namespace Go
section
variable {P : Program}
theorem run_exec_append {w w' : World} {o : Oper} {a : Act} {v' : Value} (s x : Operand) (t t' : TypeId) (hop : o.op = Op.call { callee := Callee.builtin Builtin.append, args := #[s, x], argTypes := #[t, t'] })
    (sv xv : Value) (hs : a.eval s = sv) (hx : a.eval x = xv) (hrun : (Builtin.append_ #[t, t'] o.type #[sv, xv]).run P w = .ok v' w') : (execOp a.eval o).run P w = .ok (.value v') w' := by
  simp [execOp, hop, resolve, invoke, builtin, hs, hx, hrun, Result.andThen]
theorem free_nil {F : Nat → Prop} : ∀ j ∈ ([] : List Nat), F j := fun _ h => by cases h
theorem free_cons {F : Nat → Prop} {i : Nat} {l : List Nat} (h : F i) (hl : ∀ j ∈ l, F j) : ∀ j ∈ i :: l, F j := fun j hj => by
  rcases List.mem_cons.1 hj with rfl | hj
  · exact h
  · exact hl j hj
end
end Go
namespace Go.Proofs.YtfcdldcekdbckaeDoor
open Go Go.RowKit Gf

set_option maxRecDepth 100000 in
set_option maxHeartbeats 4000000 in
theorem mac_out (ks bs : List (BitVec 8)) (m : BitVec 128) (vk vb : Value) (w : World) (hrk : rowOf 0 ks vk w) (hrb : rowOf 0 bs vb w) (h : 2147483647 < ks.length ∨ 2147483647 < bs.length ∨ keyB ks.length = false ∨ bs.length % 16 ≠ 0 ∨ bs.length = 0 ∨ 16384 < bs.length) :
    Calls Tryd.prog 3 #[vk, vb, .agg (blk m)] w (TrueP w) := by
  have b1 : Below w.heap.size w (w.alloc (.cells (blk m) 23)) := (Below.refl _ w).alloc (Nat.le_refl _) _
  have gK := isKey_any ks vk _ (stab_rowOf _ _ _ _ _ b1 hrk)
  have B1 := Lib.hid b1
  have HB := Lib.hid (stab_rowOf _ _ _ _ _ b1 hrb)
  obtain ⟨pk, ck, rfl⟩ := hrk.slice
  obtain ⟨pb, cb, rfl⟩ := hrb.slice
  clear hrk hrb b1
  by_cases h1 : 2147483647 < ks.length
  · have h1' : 2147483647 < (ks.length : Int) := by omega
    clear h
    go_enter Tryd.func3, Tryd.ntmps3
    go_wp2_with (fail)
    go_ret
    exact ⟨rfl, B1.out⟩
  have h1' : ¬ 2147483647 < (ks.length : Int) := by omega
  by_cases h2 : 2147483647 < bs.length
  · have h2' : 2147483647 < (bs.length : Int) := by omega
    clear h
    go_enter Tryd.func3, Tryd.ntmps3
    go_wp2_with (fail)
    go_ret
    exact ⟨rfl, B1.out⟩
  have h2' : ¬ 2147483647 < (bs.length : Int) := by omega
  cases h3 : keyB ks.length with
  | false =>
    rw [h3] at gK
    clear h h3
    go_enter Tryd.func3, Tryd.ntmps3
    go_wp2_with (go_at_call 5; (with_reducible refine gK.mono ?_); rintro e w2 ⟨rfl, hb2⟩; have HB2 := Lib.hid hb2; clear hb2)
    go_ret
    exact ⟨rfl, B1.out.trans (HB2.out.mono (by simp))⟩
  | true =>
    rw [h3] at gK
    have h' : bs.length % 16 ≠ 0 ∨ bs.length = 0 ∨ 16384 < bs.length := by
      rw [h3] at h
      rcases h with h | h | h | h
      · omega
      · omega
      · cases h
      · exact h
    clear h h3
    by_cases h4 : bs.length % 16 = 0
    · have htm : (bs.length : Int).tmod 16 = 0 := by rw [Int.tmod_eq_emod_of_nonneg (by omega)]; omega
      by_cases h5 : bs.length = 0
      · have hl0 : ((bs.length : Int) == 0) = true := by simp; exact List.length_eq_zero_iff.1 h5
        clear h'
        have H5 := Lib.hid h5
        have H4 := Lib.hid h4
        clear h4 h5
        go_enter Tryd.func3, Tryd.ntmps3
        go_wp2_with (go_at_call 5; (with_reducible refine gK.mono ?_); rintro e w2 ⟨rfl, hb2⟩; have HB2 := Lib.hid hb2; clear hb2)
        go_ret
        exact ⟨rfl, B1.out.trans (HB2.out.mono (by simp))⟩
      · have hl0 : ((bs.length : Int) == 0) = false := by simp; intro h; subst h; exact h5 rfl
        have h6 : ¬ bs.length ≤ 16384 := by omega
        have H5 := Lib.hid h5
        have H4 := Lib.hid h4
        clear h4 h5 h'
        go_enter Tryd.func3, Tryd.ntmps3
        go_wp2_with (go_at_call 5; (with_reducible refine gK.mono ?_); rintro e w2 ⟨rfl, hb2⟩; have HB2 := Lib.hid hb2; clear hb2)
        have hb02 := B1.out.trans (HB2.out.mono (by simp))
        have b3 : Below w2.heap.size w2 (w2.alloc (.cells #[.slice pb bs.length cb] 22)) := (Below.refl _ _).alloc (Nat.le_refl _) _
        have gF := few_any [bs] _ _ (rowsOf_one (stab_rowOf _ _ _ _ _ HB2.out HB.out) rfl)
        rw [total_one, decide_eq_false h6] at gF
        have HB3 := Lib.hid (hb02.trans (b3.mono hb02.size))
        clear hb02 b3
        go_wp2_with (go_at_call 6; (with_reducible refine gF.mono ?_); rintro e w4 ⟨rfl, hb4⟩; have HB4 := Lib.hid hb4; clear hb4)
        go_ret
        exact ⟨rfl, HB3.out.trans (HB4.out.mono HB3.out.size)⟩
    · have htm : ((bs.length : Int) % 16 != 0) = true := by simp only [bne_iff_ne, ne_eq]; omega
      have H4 := Lib.hid h4
      clear h4 h'
      go_enter Tryd.func3, Tryd.ntmps3
      go_wp2_with (go_at_call 5; (with_reducible refine gK.mono ?_); rintro e w2 ⟨rfl, hb2⟩; have HB2 := Lib.hid hb2; clear hb2)
      go_ret
      exact ⟨rfl, B1.out.trans (HB2.out.mono (by simp))⟩

def TupB (x : BitVec 128) : Value := .tuple #[.agg (blk x), .bool true]
set_option maxRecDepth 100000 in
set_option maxHeartbeats 4000000 in
theorem mac_in (T : Tab) (ks bs : List (BitVec 8)) (n : Nat) (m : BitVec 128) (vk vb : Value) (w : World) (hT : TabAt T w) (hrk : rowOf 0 ks vk w) (hrb : rowOf 0 bs vb w) (hk : isKey ks) (hn : 1 ≤ n) (hbs : bs.length = 16 * n) (hbl : bs.length ≤ 16384) :
    Calls Tryd.prog 3 #[vk, vb, .agg (blk m)] w (TrueP w) := by
  have b1 : Below w.heap.size w (w.alloc (.cells (blk m) 23)) := (Below.refl _ w).alloc (Nat.le_refl _) _
  have gK := isKey_any ks vk _ (stab_rowOf _ _ _ _ _ b1 hrk)
  rw [show keyB ks.length = true by unfold keyB; unfold isKey at hk; simpa using hk] at gK
  have HT := Lib.hid hT
  have HRK := Lib.hid hrk
  have HRB := Lib.hid hrb
  have HI1 := Lib.hid (objAt_alloc_at w (.cells (blk m) 23) _ rfl)
  have B1 := Lib.hid b1
  obtain ⟨pk, ck, rfl⟩ := hrk.slice
  obtain ⟨pb, cb, rfl⟩ := hrb.slice
  have h1' : ¬ 2147483647 < (ks.length : Int) := by unfold isKey at hk; omega
  have h2' : ¬ 2147483647 < (bs.length : Int) := by omega
  have htm : (bs.length : Int).tmod 16 = 0 := by rw [Int.tmod_eq_emod_of_nonneg (by omega)]; omega
  have hl0 : ((bs.length : Int) == 0) = false := by simp; intro h; subst h; simp at hbs; omega
  have HBS := Lib.hid hbs
  clear hrk hrb b1 hT hbs
  go_enter Tryd.func3, Tryd.ntmps3
  go_wp2_with (go_at_call 5; (with_reducible refine gK.mono ?_); rintro e w2 ⟨rfl, hb2⟩)
  have hb02 := B1.out.trans (hb2.mono (by simp))
  have b3 : Below w2.heap.size w2 (w2.alloc (.cells #[.slice pb bs.length cb] 22)) := (Below.refl _ _).alloc (Nat.le_refl _) _
  have gF := few_any [bs] _ _ (rowsOf_one (stab_rowOf _ _ _ _ _ hb02 HRB.out) rfl)
  rw [total_one, decide_eq_true hbl] at gF
  have HB3 := Lib.hid (hb02.trans (b3.mono hb02.size))
  have HI3 := Lib.hid (oa_below HI1.out (hb2.trans (b3.mono hb2.size)) (oa_lt HI1.out))
  clear hb02 hb2 gK HI1 B1
  generalize w2.alloc (.cells #[.slice pb bs.length cb] 22) = w3 at *
  clear b3
  go_wp2_with (go_at_call 6; (with_reducible refine gF.mono ?_); rintro e w4 ⟨rfl, hb4⟩; have hi4 := oa_below HI3.out hb4 (oa_lt HI3.out))
  have hb04 := HB3.out.trans (hb4.mono HB3.out.size)
  have b5 : Below w4.heap.size w4 (w4.alloc (.cells #[.slice pb bs.length cb] 22)) := (Below.refl _ _).alloc (Nat.le_refl _) _
  have hb05 := hb04.trans (b5.mono hb04.size)
  have gC := cbc_any T ks bs n _ _ _ hk (HT.out.below hb05 HT.out.sz) (stab_rowOf _ _ _ _ _ hb05 HRK.out) (rowsOf_one (stab_rowOf _ _ _ _ _ hb04 HRB.out) rfl) hn HBS.out (by omega)
  have HB5 := Lib.hid hb05
  have HI5 := Lib.hid (oa_below hi4 b5 (oa_lt hi4))
  clear hb4 hi4 hb04 b5 hb05 gF HI3 HB3
  generalize w4.alloc (.cells #[.slice pb bs.length cb] 22) = w5 at *
  have HL6 := Lib.hid (show (chnL (ciph T ks) bs n).length = bs.length by rw [chnL_length, HBS.out])
  have HNE := Lib.hid (show chnL (ciph T ks) bs n ≠ [] by intro h; have h2 := HL6.out; rw [h] at h2; have := HBS.out; simp at h2; omega)
  have kL1 : (16 : Int) ≤ (bs.length : Int) := by have := HBS.out; omega
  have kL3 : bs.length - (bs.length - 16) = 16 := by have := HBS.out; omega
  go_wp2_with (go_at_call 7; (with_reducible refine gC.mono ?_); rintro e w6 ⟨v6, rfl, hr6, hb6⟩; clear gC; obtain ⟨p6, c6, rfl, hc6, hm6, h6⟩ := hr6; obtain ⟨S6, o6, rfl, _, hS6, hcell6⟩ := h6.resolve_left HNE.out; rw [HL6.out] at hc6 ⊢; have kL2 : (bs.length : Int) ≤ (c6 : Int) := (by omega); have HC6 := Lib.hid hcell6; have HB6 := Lib.hid hb6; clear hcell6 hb6 h6)
  have hrl : rowOf 0 (bytesOf (chn (ciph T ks) bs n)) (.slice (some ⟨S6, o6 + (bs.length - 16), none⟩) 16 (c6 - (bs.length - 16))) w6 := by
    refine ⟨_, c6 - (bs.length - 16), by rw [bytesOf_length], by rw [bytesOf_length]; omega, by omega, .inr ⟨S6, _, rfl, Nat.zero_le _, hS6, fun i x hx => ?_⟩⟩
    obtain ⟨k, rfl⟩ : ∃ k, n = k + 1 := ⟨n - 1, by omega⟩
    rw [← chnL_last, List.getElem?_drop] at hx
    have h2 := HC6.out _ _ hx
    rw [show bs.length - 16 = 16 * k by have := HBS.out; omega, Nat.add_assoc]
    exact h2
  obtain ⟨E, hE⟩ : ∃ E, E = ciph T ks := ⟨_, rfl⟩
  rw [← hE] at hrl
  obtain ⟨l, hl⟩ : ∃ l, l = chn E bs n := ⟨_, rfl⟩
  rw [← hl] at hrl
  have HE := Lib.hid hE
  have HLL := Lib.hid hl
  have HB06 := Lib.hid (HB5.out.trans (HB6.out.mono HB5.out.size))
  have HI6 := Lib.hid (oa_below HI5.out HB6.out (oa_lt HI5.out))
  have gB := blockOf_any l _ w6 hrl
  clear hE hl hrl HB5 HB6 HI5 HC6
  go_wp2_with (go_at_call 8; (with_reducible refine gB.mono ?_); rintro e w7 ⟨rfl, hb7⟩; clear gB; have HB7 := Lib.hid (HB06.out.trans (hb7.mono HB06.out.size)); have hi7 := oa_alloc (oa_below HI6.out hb7 (oa_lt HI6.out)) (.cells (blk l) 23); have hl7 := objAt_alloc_at w7 (.cells (blk l) 23) _ rfl; have HB7' := Lib.hid (HB7.out.alloc HB7.out.size (.cells (blk l) 23)); clear hb7)
  have gX := lxor_any m l (w7.alloc (.cells (blk l) 23))
  go_wp2_with (go_at_call 9; (with_reducible refine gX.mono ?_); rintro e w8 ⟨rfl, hb8⟩; clear gX; have HB8 := Lib.hid (HB7'.out.trans (hb8.mono HB7'.out.size)); have HI8 := Lib.hid (oa_below hi7 hb8 (oa_lt hi7)); clear hb8 hi7)
  have b9 : Below w8.heap.size w8 (w8.alloc (.cells (blk (m ^^^ l)) 23)) := (Below.refl _ _).alloc (Nat.le_refl _) _
  have HB9 := Lib.hid (HB8.out.trans (b9.mono HB8.out.size))
  have HI9 := Lib.hid (oa_below HI8.out b9 (oa_lt HI8.out))
  have HY9 := Lib.hid (objAt_alloc_at w8 (.cells (blk (m ^^^ l)) 23) _ rfl)
  have gM := cmac_any T ks (bytesOf (m ^^^ l)) 1 (.slice pk ks.length ck) _ _ hk (HT.out.below HB9.out HT.out.sz) (stab_rowOf _ _ _ _ _ HB9.out HRK.out) (rowOf_blk HY9.out (Nat.zero_le _)) (Nat.le_refl _) (by rw [bytesOf_length]) (by rw [bytesOf_length]; decide)
  rw [← HE.out] at gM
  obtain ⟨z, hz⟩ : ∃ z, z = macB E (bytesOf (m ^^^ l)) 1 := ⟨_, rfl⟩
  rw [← hz] at gM
  have HZ := Lib.hid hz
  clear hz b9 HI8 HB8
  go_wp2_with (go_at_call 10; (with_reducible refine gM.mono ?_); rintro e w10 ⟨rfl, hb10⟩; clear gM; have HB10 := Lib.hid (HB9.out.trans (hb10.mono HB9.out.size)); have HI10 := Lib.hid (oa_below HI9.out hb10 (oa_lt HI9.out)); clear hb10)
  have HW0 := Lib.hid (HB10.out.alloc HB10.out.size (.cells (blk z) 23))
  have bW : Below w10.heap.size w10 (w10.alloc (.cells (blk z) 23)) := (Below.refl _ _).alloc (Nat.le_refl _) _
  have HI0 := Lib.hid (oa_below HI10.out bW (oa_lt HI10.out))
  have HZ0 := Lib.hid (objAt_alloc_at w10 (.cells (blk z) 23) _ rfl)
  have HB0 := Lib.hid (stab_rowOf _ _ _ _ _ HW0.out HRB.out)
  have GC := Lib.hid (fun (w' : World) (v : Value) (hb : Below (w10.alloc (.cells (blk z) 23)).heap.size (w10.alloc (.cells (blk z) 23)) w') (hr : rowOf 0 (bs ++ bytesOf m) v w') => (by
    have hb2 := HW0.out.trans (hb.mono HW0.out.size)
    have h := cmac_any T ks (bs ++ bytesOf m) (n + 1) (.slice pk ks.length ck) v w' hk (HT.out.below hb2 HT.out.sz) (stab_rowOf _ _ _ _ _ hb2 HRK.out) hr (by omega) (by rw [List.length_append, bytesOf_length, HBS.out]; omega) (by rw [List.length_append, bytesOf_length]; omega)
    rw [← HE.out, ← mac_chain E bs m n HBS.out, ← HLL.out, ← HZ.out] at h
    exact h : Calls Tryd.prog 10 #[.slice pk ks.length ck, v] w' fun e w2 => e = .returned (TupB z) ∧ Below w'.heap.size w' w2))
  generalize hW0 : w10.alloc (.cells (blk z) 23) = W0 at *
  clear bW HI10 HB10 HZ HLL HE hW0
  refine wp_region_rels (l := [_, _, _, _, _, _, _, _, _, _, _, _]) (last := _) 11 10 (blkIs W0.heap.size z) (fun w' => Hid (Below W0.heap.size W0 w'))
    [isv (.slice pk ks.length ck), ownB W0.heap.size [], isv (.slice pb bs.length cb), ownB W0.heap.size bs, isv (.slice (some ⟨w.heap.size, 0, none⟩) 16 16), ownB W0.heap.size (bs ++ bytesOf m), isv (TupB z), isv (TupB z), isv (.agg (blk z)), isv (.bool true), blkAny W0.heap.size, fun _ _ => True]
    (by kernel_rfl) (by kernel_rfl) (Lib.hid (Below.refl _ W0).drew) (fun w1 w2 hb hS => Lib.hid (hS.out.trans (hb.mono hS.out.size))) ?rstab ?rops ?rlast
  case rstab => exact stabs_cons (stab_blkIs _ _) (stabs_cons (stab_isv _) (stabs_cons (stab_ownB _ _) (stabs_cons (stab_isv _) (stabs_cons (stab_ownB _ _) (stabs_cons (stab_isv _) (stabs_cons (stab_ownB _ _) (stabs_cons (stab_isv _) (stabs_cons (stab_isv _) (stabs_cons (stab_isv _) (stabs_cons (stab_isv _) (stabs_cons (stab_blkAny _) (stabs_cons (fun _ _ _ _ _ => trivial) (stabs_nil)))))))))))))
  case rops =>
    refine ⟨?_, ?_, ?_, ?_, ?_, ?_, ?_, ?_, ?_, ?_, ?_, ?_, trivial⟩
    · intro u w' hS hd
      refine .inl (opV_val (v := .slice pk ks.length ck) (by rfl) ?_ rfl)
      simp only [frameOf, Act.put, List.setIfInBounds_toArray, List.set_cons_zero, List.set_cons_succ]
      go_simp
    · intro u w' hS hd
      refine .inl (opV_make (v := .slice (some ⟨w'.heap.size, 0, none⟩) 0 0) (w' := w'.alloc (.cells #[] 5)) (by rfl) ?_ ((Below.refl _ _).alloc (Nat.le_refl _) _) (ownB_nil hS.out.size))
      simp only [frameOf, Act.put, List.setIfInBounds_toArray, List.set_cons_zero, List.set_cons_succ]
      go_simp
    · intro u w' hS hd
      refine .inl (opV_val (v := .slice pb bs.length cb) (by rfl) ?_ rfl)
      simp only [frameOf, Act.put, List.setIfInBounds_toArray, List.set_cons_zero, List.set_cons_succ]
      go_simp
    · intro u w' hS hd
      have d1 : (ownB W0.heap.size []) (u 1) w' := hd ⟨1, .data⟩ (by simp) rfl
      have d2 : u 2 = .slice pb bs.length cb := hd ⟨2, .data⟩ (by simp) rfl
      obtain ⟨v3, W3, hrun3, ho3, hb3, hk3, ht3⟩ := own_keep W0.heap.size ([]) (bs) (u 1) (.slice pb bs.length cb) 22 w' d1 (stab_rowOf _ _ _ _ _ hS.out HB0.out) hS.out.size (by first | omega | (simp; omega) | (rw [bytesOf_length]; omega))
      rw [List.nil_append] at ho3
      refine .inr ⟨[0, 1, 2, 4, 10], by rfl, by kernel_rfl, v3, W3, .inl ?_, Lib.hid (hS.out.trans hb3), ?_, ho3⟩
      · simp only [frameOf, Act.put, List.setIfInBounds_toArray, List.set_cons_zero, List.set_cons_succ]
        refine run_exec_append _ _ _ _ rfl _ _ ?_ ?_ hrun3
        all_goals go_simp
      · exact free_cons (fun h => h) (free_cons (fun h => hk3 [] _ (Nat.le_refl _) h) (free_cons (fun h => h) (free_cons (fun h => h) (free_cons (fun ⟨M, y, h1, h2, h3⟩ => ⟨M, y, h1, h2, ht3 _ _ _ (by decide) h3⟩) (free_nil)))))
    · intro u w' hS hd
      refine .inl (opV_val (v := .slice (some ⟨w.heap.size, 0, none⟩) 16 16) (by rfl) ?_ rfl)
      simp only [frameOf, Act.put, List.setIfInBounds_toArray, List.set_cons_zero, List.set_cons_succ]
      go_simp
    · intro u w' hS hd
      have d3 : (ownB W0.heap.size bs) (u 3) w' := hd ⟨3, .data⟩ (by simp) rfl
      have d4 : u 4 = .slice (some ⟨w.heap.size, 0, none⟩) 16 16 := hd ⟨4, .data⟩ (by simp) rfl
      obtain ⟨v5, W5, hrun5, ho5, hb5, hk5, ht5⟩ := own_keep W0.heap.size (bs) (bytesOf m) (u 3) (.slice (some ⟨w.heap.size, 0, none⟩) 16 16) 22 w' d3 (rowOf_blk (oa_below HI0.out hS.out (oa_lt HI0.out)) (Nat.zero_le _)) hS.out.size (by first | omega | (simp; omega) | (rw [bytesOf_length]; omega))
      refine .inr ⟨[0, 1, 2, 3, 4, 10], by rfl, by kernel_rfl, v5, W5, .inl ?_, Lib.hid (hS.out.trans hb5), ?_, ho5⟩
      · simp only [frameOf, Act.put, List.setIfInBounds_toArray, List.set_cons_zero, List.set_cons_succ]
        refine run_exec_append _ _ _ _ rfl _ _ ?_ ?_ hrun5
        all_goals go_simp
      · exact free_cons (fun h => h) (free_cons (fun h => hk5 [] _ (Nat.zero_le _) h) (free_cons (fun h => h) (free_cons (fun h => hk5 bs _ (Nat.le_refl _) h) (free_cons (fun h => h) (free_cons (fun ⟨M, y, h1, h2, h3⟩ => ⟨M, y, h1, h2, ht5 _ _ _ (by decide) h3⟩) (free_nil))))))
    · intro u w' hS hd
      have d0 : u 0 = .slice pk ks.length ck := hd ⟨0, .data⟩ (by simp) rfl
      have d5 : (ownB W0.heap.size (bs ++ bytesOf m)) (u 5) w' := hd ⟨5, .data⟩ (by simp) rfl
      refine .inl (opV_call (f := 10) (args := #[.slice pk ks.length ck, u 5]) (by rfl) ?_ ((GC.out w' (u 5) hS.out (d5.rowOf.mono (Nat.zero_le _))).mono fun e w2 ⟨he, hb⟩ => ⟨_, he, hb, rfl⟩))
      simp only [frameOf, Act.put, List.setIfInBounds_toArray, List.set_cons_zero, List.set_cons_succ]
      go_simp
    · intro u w' hS hd
      have d6 : u 6 = TupB z := hd ⟨6, .data⟩ (by simp) rfl
      refine .inl (opV_val (v := TupB z) (by rfl) ?_ rfl)
      simp only [frameOf, Act.put, List.setIfInBounds_toArray, List.set_cons_zero, List.set_cons_succ]
      rw [d6]; go_simp
    · intro u w' hS hd
      have d7 : u 7 = TupB z := hd ⟨7, .data⟩ (by simp) rfl
      refine .inl (opV_val (v := .agg (blk z)) (by rfl) ?_ rfl)
      simp only [frameOf, Act.put, List.setIfInBounds_toArray, List.set_cons_zero, List.set_cons_succ]
      rw [d7]; unfold TupB; go_simp
    · intro u w' hS hd
      have d7 : u 7 = TupB z := hd ⟨7, .data⟩ (by simp) rfl
      refine .inl (opV_val (v := .bool true) (by rfl) ?_ rfl)
      simp only [frameOf, Act.put, List.setIfInBounds_toArray, List.set_cons_zero, List.set_cons_succ]
      rw [d7]; unfold TupB; go_simp
    · intro u w' hS hd
      refine .inl (opV_make (v := .pointer (some ⟨w'.heap.size, 0, none⟩)) (w' := w'.alloc (.cells (blk 0#128) 23)) (by rfl) ?_ ((Below.refl _ _).alloc (Nat.le_refl _) _) ⟨_, 0#128, hS.out.size, rfl, objAt_alloc_at _ _ _ rfl⟩)
      simp only [frameOf, Act.put, List.setIfInBounds_toArray, List.set_cons_zero, List.set_cons_succ]
      go_simp
    · intro u w' hS hd
      have d8 : u 8 = .agg (blk z) := hd ⟨8, .data⟩ (by simp) rfl
      have d10 : (blkAny W0.heap.size) (u 10) w' := hd ⟨10, .data⟩ (by simp) rfl
      obtain ⟨M, y, hM, eM, oM⟩ := d10
      have hM5 : (23 : TypeId) ≠ 5 := by decide
      refine .inr ⟨[0, 1, 2, 3, 4, 5, 6, 7, 8, 9, 10], by rfl, by kernel_rfl, undef, w'.setRow M (blk z), .inr ⟨?_, rfl⟩, Lib.hid (bel_setRow hS.out hM _), ?_, ⟨M, hM, eM, objAt_setRow_same oM (blk z)⟩⟩
      · simp only [frameOf, Act.put, List.setIfInBounds_toArray, List.set_cons_zero, List.set_cons_succ]
        rw [d8, eM]; go_simp
      · exact free_cons (fun h => h) (free_cons (fun h => ownB.setRow h oM hM5 (blk z)) (free_cons (fun h => h) (free_cons (fun h => ownB.setRow h oM hM5 (blk z)) (free_cons (fun h => h) (free_cons (fun h => ownB.setRow h oM hM5 (blk z)) (free_cons (fun h => h) (free_cons (fun h => h) (free_cons (fun h => h) (free_cons (fun h => h) (free_cons (fun _ => ⟨M, z, hM, eM, objAt_setRow_same oM (blk z)⟩) (free_nil)))))))))))
  case rlast =>
    intro u w1 hS hV
    have d9 : u 9 = .bool true := hV 9 (by decide)
    have d11 : blkIs W0.heap.size z (u 10) w1 := hV 11 (by decide)
    obtain ⟨M, hM, eM, oM⟩ := d11
    simp only [frameOf, Act.put, List.setIfInBounds_toArray, List.set_cons_zero, List.set_cons_succ]
    simp only [wpOp, List.length_cons, List.length_nil, Nat.zero_add, Nat.reduceAdd]
    go_simp
    refine .inl ?_
    have HS := Lib.hid hS.out
    have HM := Lib.hid oM
    clear hV hS oM
    rename_i hKK
    refine hKK _ _ ?_
    clear hKK
    have hz1 := oa_below HZ0.out HS.out (oa_lt HZ0.out)
    have hm1 := HM.out
    have HR1 := Lib.hid (HW0.out.trans (HS.out.mono HW0.out.size))
    have hq := weq_self z
    go_wp2_with (fail)
    go_ret
    exact ⟨rfl, HR1.out⟩
end Go.Proofs.YtfcdldcekdbckaeDoor
