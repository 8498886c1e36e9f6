/- The law of places: what is sealed, and what is opened, stands behind what was there. -/
import Derived.Test.YtfcdldcekdbckacDoorOpn3
import Derived.Test.YtfcdldcekdbckacDoorLh
import Derived.Test.YtfcdldcekdbckacDoorOwn3
import Derived.BigFrame
namespace Go
section
variable {P : Program}
/-- The builtin append, its run given, where a guard says yes. -/
theorem wpList_append_want {w w' : World} {ops : Array Oper} {rest : List Oper} {o : Oper} {a : Act} {Q : Exit → Act → World → Prop} {v' : Value}
    (hg : Region.wanted o (yielded ops a.tmps) = true) (s x : Operand) (t t' : TypeId) (hop : o.op = Op.call { callee := Callee.builtin Builtin.append, args := #[s, x], argTypes := #[t, t'] })
    (sv xv : Value) (hs : a.eval s = sv) (hx : a.eval x = xv) (hrun : (Builtin.append_ #[t, t'] o.type #[sv, xv]).run P w = .ok v' w') (hK : wpList P ops Q rest (a.put o.dst v') w') : wpList P ops Q (o :: rest) a w := by
  refine BigFrame.wpList_want hg fun K hK' => ?_
  unfold Oper.wp
  simp [execOp, hop, resolve, invoke, builtin, hs, hx, hrun, Result.andThen]
  exact hK' _ _ hK
end
end Go
namespace Go.Proofs.YtfcdldcekdbckacDoor
open Go Go.RowKit Gf

def TrueP (w : World) (e : Ending) (w' : World) : Prop := e = .returned (.bool true) ∧ Below w.heap.size w w'
theorem rowsOf_four {xs ys zs us : List (BitVec 8)} {u v t s : Value} {w : World} (ha : rowOf 0 xs u w) (hb : rowOf 0 ys v w) (hc : rowOf 0 zs t w) (hd : rowOf 0 us s w) : rowsOf 0 [xs, ys, zs, us] (.slice (some ⟨w.heap.size, 0, none⟩) 4 4) (w.alloc (.cells #[u, v, t, s] 22)) := by
  have b : Below w.heap.size w (w.alloc (.cells #[u, v, t, s] 22)) := (Below.refl _ _).alloc (Nat.le_refl _) _
  exact rowsOf_mk (vs := [u, v, t, s]) (inp := [xs, ys, zs, us]) (objAt_alloc_at w (.cells #[u, v, t, s] 22) _ rfl) (Nat.zero_le _) (by simp) (fun i l hi => by
    match i, hi with
    | 0, hi =>
      obtain rfl : xs = l := by simpa using hi
      exact ⟨u, rfl, stab_rowOf _ _ _ _ _ b ha⟩
    | 1, hi =>
      obtain rfl : ys = l := by simpa using hi
      exact ⟨v, rfl, stab_rowOf _ _ _ _ _ b hb⟩
    | 2, hi =>
      obtain rfl : zs = l := by simpa using hi
      exact ⟨t, rfl, stab_rowOf _ _ _ _ _ b hc⟩
    | 3, hi =>
      obtain rfl : us = l := by simpa using hi
      exact ⟨s, rfl, stab_rowOf _ _ _ _ _ b hd⟩
    | i + 4, hi => simp at hi)
theorem total_four (xs ys zs us : List (BitVec 8)) : total [xs, ys, zs, us] = xs.length + ys.length + zs.length + us.length := by simp [total]; omega
/-- Whether a tag may have so many bytes. -/
def tagB (t : Int) : Bool := decide (12 ≤ t ∧ t ≤ 16)
theorem isTag_any (t : Int) (w : World) : Calls Tryd.prog 5 #[.int .i64 t] w fun e w' => e = .returned (.bool (tagB t)) ∧ w' = w := by
  unfold tagB
  by_cases h1 : 12 ≤ t
  · by_cases h2 : t ≤ 16
    · rw [decide_eq_true ⟨h1, h2⟩]
      go_enter Tryd.func5, Tryd.ntmps5
      go_wp2
      go_ret
      exact ⟨rfl, rfl⟩
    · rw [decide_eq_false (fun h => h2 h.2)]
      go_enter Tryd.func5, Tryd.ntmps5
      go_wp2
      go_ret
      exact ⟨rfl, rfl⟩
  · rw [decide_eq_false (fun h => h1 h.1)]
    go_enter Tryd.func5, Tryd.ntmps5
    go_wp2
    go_ret
    exact ⟨rfl, rfl⟩
set_option maxRecDepth 100000 in
set_option maxHeartbeats 4000000 in
theorem beh_out (ks xs ns bs ds : List (BitVec 8)) (t : Int) (vk va vn vb vd : Value) (w : World) (hrk : rowOf 0 ks vk w) (hra : rowOf 0 xs va w) (hrn : rowOf 0 ns vn w) (hrb : rowOf 0 bs vb w) (hrd : rowOf 0 ds vd w)
    (h : 2147483647 < ks.length ∨ 2147483647 < xs.length ∨ 2147483647 < ns.length ∨ 2147483647 < bs.length ∨ 2147483647 < ds.length ∨ keyB ks.length = false ∨ tagB t = false ∨ ns.length = 0 ∨ 16384 < xs.length + ns.length + bs.length + ds.length) :
    Calls Tryd.prog 3 #[vk, .int .i64 t, va, vn, vb, vd] w (TrueP w) := by
  have gK := isKey_any ks vk w hrk
  have HA := Lib.hid hra
  have HN := Lib.hid hrn
  have HB := Lib.hid hrb
  have HD := Lib.hid hrd
  obtain ⟨pk, ck, rfl⟩ := hrk.slice
  obtain ⟨pa, ca, rfl⟩ := hra.slice
  obtain ⟨pn, cn, rfl⟩ := hrn.slice
  obtain ⟨pb, cb, rfl⟩ := hrb.slice
  obtain ⟨pd, cd, rfl⟩ := hrd.slice
  clear hrk hra hrn hrb hrd
  by_cases h1 : 2147483647 < ks.length
  · have h1' : 2147483647 < (ks.length : Int) := by omega
    clear h
    go_enter Tryd.func3, Tryd.ntmps3
    go_wp2_with (fail)
    go_ret
    exact ⟨rfl, Below.refl _ _⟩
  have h1' : ¬ 2147483647 < (ks.length : Int) := by omega
  by_cases h0 : 2147483647 < xs.length
  · have h0' : 2147483647 < (xs.length : Int) := by omega
    clear h
    go_enter Tryd.func3, Tryd.ntmps3
    go_wp2_with (fail)
    go_ret
    exact ⟨rfl, Below.refl _ _⟩
  have h0' : ¬ 2147483647 < (xs.length : Int) := by omega
  by_cases h2 : 2147483647 < ns.length
  · have h2' : 2147483647 < (ns.length : Int) := by omega
    clear h
    go_enter Tryd.func3, Tryd.ntmps3
    go_wp2_with (fail)
    go_ret
    exact ⟨rfl, Below.refl _ _⟩
  have h2' : ¬ 2147483647 < (ns.length : Int) := by omega
  by_cases h3 : 2147483647 < bs.length
  · have h3' : 2147483647 < (bs.length : Int) := by omega
    clear h
    go_enter Tryd.func3, Tryd.ntmps3
    go_wp2_with (fail)
    go_ret
    exact ⟨rfl, Below.refl _ _⟩
  have h3' : ¬ 2147483647 < (bs.length : Int) := by omega
  by_cases h4 : 2147483647 < ds.length
  · have h4' : 2147483647 < (ds.length : Int) := by omega
    clear h
    go_enter Tryd.func3, Tryd.ntmps3
    go_wp2_with (fail)
    go_ret
    exact ⟨rfl, Below.refl _ _⟩
  have h4' : ¬ 2147483647 < (ds.length : Int) := by omega
  cases h5 : keyB ks.length with
  | false =>
    rw [h5] at gK
    clear h h5
    go_enter Tryd.func3, Tryd.ntmps3
    go_wp2_with (go_at_call 4; (with_reducible refine gK.mono ?_); rintro e w2 ⟨rfl, hb2⟩; have HB2 := Lib.hid hb2; clear hb2)
    go_ret
    exact ⟨rfl, HB2.out⟩
  | true =>
    rw [h5] at gK
    have h' : tagB t = false ∨ ns.length = 0 ∨ 16384 < xs.length + ns.length + bs.length + ds.length := by
      rw [h5] at h
      rcases h with h | h | h | h | h | h | h
      · omega
      · omega
      · omega
      · omega
      · omega
      · cases h
      · exact h
    clear h h5
    have gT := fun w => isTag_any t w
    cases h6 : tagB t with
    | false =>
      rw [h6] at gT
      clear h' h6
      go_enter Tryd.func3, Tryd.ntmps3
      go_wp2_with (first
        | (go_at_call 4; (with_reducible refine gK.mono ?_); rintro e w2 ⟨rfl, hb2⟩; have HB2 := Lib.hid hb2; clear hb2)
        | (go_at_call 5; (with_reducible refine (gT _).mono ?_); rintro e w3 ⟨rfl, hw3⟩; replace hw3 := hw3.symm; subst hw3))
      go_ret
      exact ⟨rfl, HB2.out⟩
    | true =>
      rw [h6] at gT
      by_cases h7 : ns.length = 0
      · have hl0 : ((ns.length : Int) == 0) = true := by simp; exact List.length_eq_zero_iff.1 h7
        have H7 := Lib.hid h7
        clear h' h6 h7
        go_enter Tryd.func3, Tryd.ntmps3
        go_wp2_with (first
          | (go_at_call 4; (with_reducible refine gK.mono ?_); rintro e w2 ⟨rfl, hb2⟩; have HB2 := Lib.hid hb2; clear hb2)
          | (go_at_call 5; (with_reducible refine (gT _).mono ?_); rintro e w3 ⟨rfl, hw3⟩; replace hw3 := hw3.symm; subst hw3))
        go_ret
        exact ⟨rfl, HB2.out⟩
      · have hl0 : ((ns.length : Int) == 0) = false := by simp; intro h; subst h; exact h7 rfl
        have h8 : ¬ xs.length + ns.length + bs.length + ds.length ≤ 16384 := by rcases h' with h | h | h; rw [h6] at h; cases h; omega; omega
        have H8 := Lib.hid h8
        clear h' h6 h7 h8
        go_enter Tryd.func3, Tryd.ntmps3
        go_wp2_with (first
          | (go_at_call 4; (with_reducible refine gK.mono ?_); rintro e w2 ⟨rfl, hb2⟩; have HB2 := Lib.hid hb2; clear hb2)
          | (go_at_call 5; (with_reducible refine (gT _).mono ?_); rintro e w3 ⟨rfl, hw3⟩; replace hw3 := hw3.symm; subst hw3))
        have b3 : Below w2.heap.size w2 (w2.alloc (.cells #[.slice pa xs.length ca, .slice pn ns.length cn, .slice pb bs.length cb, .slice pd ds.length cd] 22)) := (Below.refl _ _).alloc (Nat.le_refl _) _
        have gF := few_any [xs, ns, bs, ds] _ _ (rowsOf_four (stab_rowOf _ _ _ _ _ HB2.out HA.out) (stab_rowOf _ _ _ _ _ HB2.out HN.out) (stab_rowOf _ _ _ _ _ HB2.out HB.out) (stab_rowOf _ _ _ _ _ HB2.out HD.out))
        rw [total_four, decide_eq_false H8.out] at gF
        have HB3 := Lib.hid (HB2.out.trans (b3.mono HB2.out.size))
        clear b3
        go_wp2_with (go_at_call 6; (with_reducible refine gF.mono ?_); rintro e w4 ⟨rfl, hb4⟩; have HB4 := Lib.hid hb4; clear hb4)
        go_ret
        exact ⟨rfl, HB3.out.trans (HB4.out.mono HB3.out.size)⟩
set_option maxRecDepth 100000 in
set_option maxHeartbeats 4000000 in
theorem beh_in (T : Tab) (ks xs ns bs ds : List (BitVec 8)) (t : Nat) (vk va vn vb vd : Value) (w : World) (hT : TabAt T w) (hrk : rowOf 0 ks vk w) (hra : rowOf 0 xs va w) (hrn : rowOf 0 ns vn w) (hrb : rowOf 0 bs vb w) (hrd : rowOf 0 ds vd w) (hk : isKey ks)
    (ht1 : 12 ≤ t) (ht2 : t ≤ 16) (hn0 : 0 < ns.length) (hl : xs.length + ns.length + bs.length + ds.length ≤ 16384) :
    Calls Tryd.prog 3 #[vk, .int .i64 (t : Int), va, vn, vb, vd] w (TrueP w) := by
  have gK := isKey_any ks vk w hrk
  rw [show keyB ks.length = true by unfold keyB; unfold isKey at hk; simpa using hk] at gK
  have gT := fun w => isTag_any (t : Int) w
  rw [show tagB (t : Int) = true by unfold tagB; simp; omega] at gT
  have HK := Lib.hid hrk
  have HA := Lib.hid hra
  have HN := Lib.hid hrn
  have HB := Lib.hid hrb
  have HD := Lib.hid hrd
  have HT := Lib.hid hT
  obtain ⟨pk, ck, rfl⟩ := hrk.slice
  obtain ⟨pa, ca, rfl⟩ := hra.slice
  obtain ⟨pn, cn, rfl⟩ := hrn.slice
  obtain ⟨pb, cb, rfl⟩ := hrb.slice
  obtain ⟨pd, cd, rfl⟩ := hrd.slice
  have h0' : ¬ 2147483647 < (xs.length : Int) := by omega
  have h1' : ¬ 2147483647 < (ks.length : Int) := by unfold isKey at hk; omega
  have h2' : ¬ 2147483647 < (ns.length : Int) := by omega
  have h3' : ¬ 2147483647 < (bs.length : Int) := by omega
  have h4' : ¬ 2147483647 < (ds.length : Int) := by omega
  have hl0 : ((ns.length : Int) == 0) = false := by simp; intro h; subst h; simp at hn0
  clear hrk hra hrn hrb hrd hT
  go_enter Tryd.func3, Tryd.ntmps3
  go_wp2_with (first
    | (go_at_call 4; (with_reducible refine gK.mono ?_); rintro e w2 ⟨rfl, hb2⟩; have HB2 := Lib.hid hb2; clear hb2)
    | (go_at_call 5; (with_reducible refine (gT _).mono ?_); rintro e w3 ⟨rfl, hw3⟩; replace hw3 := hw3.symm; subst hw3))
  have b3 : Below w2.heap.size w2 (w2.alloc (.cells #[.slice pa xs.length ca, .slice pn ns.length cn, .slice pb bs.length cb, .slice pd ds.length cd] 22)) := (Below.refl _ _).alloc (Nat.le_refl _) _
  have gF := few_any [xs, ns, bs, ds] _ _ (rowsOf_four (stab_rowOf _ _ _ _ _ HB2.out HA.out) (stab_rowOf _ _ _ _ _ HB2.out HN.out) (stab_rowOf _ _ _ _ _ HB2.out HB.out) (stab_rowOf _ _ _ _ _ HB2.out HD.out))
  rw [total_four, decide_eq_true hl] at gF
  have HB3 := Lib.hid (HB2.out.trans (b3.mono HB2.out.size))
  clear b3 HB2
  generalize w2.alloc (.cells #[.slice pa xs.length ca, .slice pn ns.length cn, .slice pb bs.length cb, .slice pd ds.length cd] 22) = w3 at *
  obtain ⟨sl, hsl⟩ : ∃ s, s = sealL (ciph T ks) ns bs ds t := ⟨_, rfl⟩
  have hsll : sl.length = bs.length + t := by rw [hsl, sealL_length _ _ _ _ _ ht2]
  have HSL := Lib.hid hsl
  have HSN := Lib.hid hsll
  clear hsl hsll
  have GS := Lib.hid (fun (W : World) (hb : Below w.heap.size w W) => iseal_nil T ks ns bs ds t _ _ _ _ W (HT.out.below hb HT.out.sz) hk (stab_rowOf _ _ _ _ _ hb HK.out) (stab_rowOf _ _ _ _ _ hb HN.out) (stab_rowOf _ _ _ _ _ hb HB.out) (stab_rowOf _ _ _ _ _ hb HD.out) ht1 ht2 hn0 (by omega) (by omega) (by omega))
  have GS2 := Lib.hid (fun (W : World) (hb : Below w.heap.size w W) => iseal_any T ks xs ns bs ds t _ _ _ _ _ W (HT.out.below hb HT.out.sz) hk (stab_rowOf _ _ _ _ _ hb HK.out) (stab_rowOf _ _ _ _ _ hb HA.out) (stab_rowOf _ _ _ _ _ hb HN.out) (stab_rowOf _ _ _ _ _ hb HB.out) (stab_rowOf _ _ _ _ _ hb HD.out) ht1 ht2 hn0 (by omega) (by omega) (by omega) (by omega))
  have GO := Lib.hid (fun (v : Value) (W : World) (hb : Below w.heap.size w W) (hr : rowOf 0 sl v W) => (by
    have h := iopen_any T ks xs ns (ctOf (ciph T ks) ns bs) ds t _ _ _ v _ W (HT.out.below hb HT.out.sz) hk (stab_rowOf _ _ _ _ _ hb HK.out) (stab_rowOf _ _ _ _ _ hb HA.out) (stab_rowOf _ _ _ _ _ hb HN.out) (by rw [HSL.out] at hr; exact hr) (stab_rowOf _ _ _ _ _ hb HD.out) ht1 ht2 hn0 (by omega) (by omega) (by rw [ctOf_length]; omega) (by omega)
    have e : gctr (ciph T ks) (inc4 (cOf (ciph T ks) ns)) (ctOf (ciph T ks) ns bs) = bs := gctr_gctr _ _ _
    rw [e] at h
    exact h : Calls Tryd.prog 8 #[.slice pk ks.length ck, .int .i64 (t : Int), .slice pa xs.length ca, .slice pn ns.length cn, v, .slice pd ds.length cd] W (RowTP (xs ++ bs) W)))
  go_wp2_with (first
    | (go_at_call 6; (with_reducible refine gF.mono ?_); rintro e w4 ⟨rfl, hb4⟩; have HB4 := Lib.hid (HB3.out.trans (hb4.mono HB3.out.size)); have g1 := Lib.hid (GS.out w4 HB4.out); clear hb4 HB3)
    | (go_at_call 7; (with_reducible refine g1.out.mono ?_); rintro e w5 ⟨v5, rfl, hr5, hb5⟩; rw [← HSL.out] at hr5; have R5 := Lib.hid hr5; have HB5 := Lib.hid (HB4.out.trans (hb5.mono HB4.out.size)); have g2 := Lib.hid (GS2.out w5 HB5.out); clear hb5 hr5 HB4 g1)
    | (go_at_call 7; (with_reducible refine g2.out.mono ?_); rintro e w6 ⟨v6, rfl, hr6, hb6⟩; rw [← HSL.out] at hr6; have R6 := Lib.hid hr6; have HB6 := Lib.hid (HB5.out.trans (hb6.mono HB5.out.size)); have R56 := Lib.hid (stab_rowOf _ _ _ _ _ hb6 R5.out); have g3 := Lib.hid (GO.out v5 w6 HB6.out R56.out); clear hb6 hr6 HB5 g2 R5)
    | (go_at_call 8; (with_reducible refine g3.out.mono ?_); rintro e w7 ⟨v7, rfl, hr7, hb7⟩; have R7 := Lib.hid hr7; have HB7 := Lib.hid (HB6.out.trans (hb7.mono HB6.out.size)); have R57 := Lib.hid (stab_rowOf _ _ _ _ _ hb7 R56.out); have R67 := Lib.hid (stab_rowOf _ _ _ _ _ hb7 R6.out); clear hb7 hr7 HB6 g3 R56 R6
       have ba : Below w7.heap.size w7 (w7.alloc (.cells #[] 5)) := (Below.refl _ _).alloc (Nat.le_refl _) _
       obtain ⟨va1, W1, hrun1, ho1, hb1⟩ := own_app w7.heap.size [] xs _ _ 22 _ (ownB_nil (Nat.le_refl w7.heap.size)) (stab_rowOf _ _ _ _ _ (HB7.out.trans (ba.mono HB7.out.size)) HA.out) (by simp) (by simp; omega)
       obtain ⟨va2, W2, hrun2, ho2, hb2⟩ := own_app w7.heap.size ([] ++ xs) sl _ _ 22 _ ho1 (stab_rowOf _ _ _ _ _ (ba.trans hb1) R57.out) (Nat.le_trans (by simp) hb1.size) (by have := HSN.out; simp; omega)
       have H2 := Lib.hid (ba.trans (hb1.trans hb2))
       have gS := Lib.hid (same_any (xs ++ sl) v6 va2 W2 (stab_rowOf _ _ _ _ _ H2.out R67.out) (ho2.rowOf.mono (Nat.zero_le _)))
       clear ho1 ho2 hb1 hb2 R67 R57)
    | (at_builtin; refine wpList_append_want (by rfl) _ _ _ _ rfl _ _ rfl rfl hrun1 ?_; clear hrun1)
    | (at_builtin; refine wpList_append_want (by rfl) _ _ _ _ rfl _ _ rfl rfl hrun2 ?_; clear hrun2)
    | (go_at_call 9; (with_reducible refine gS.out.mono ?_); rintro e w8 ⟨rfl, hb8⟩
       have b78 := H2.out.trans (hb8.mono H2.out.size)
       have HB8 := Lib.hid (HB7.out.trans (b78.mono HB7.out.size))
       have R78 := Lib.hid (stab_rowOf _ _ _ _ _ b78 R7.out)
       have ba : Below w8.heap.size w8 (w8.alloc (.cells #[] 5)) := (Below.refl _ _).alloc (Nat.le_refl _) _
       obtain ⟨va3, W3, hrun3, ho3, hb3⟩ := own_app w8.heap.size [] xs _ _ 22 _ (ownB_nil (Nat.le_refl w8.heap.size)) (stab_rowOf _ _ _ _ _ (HB8.out.trans (ba.mono HB8.out.size)) HA.out) (by simp) (by simp; omega)
       obtain ⟨va4, W4, hrun4, ho4, hb4⟩ := own_app w8.heap.size ([] ++ xs) bs _ _ 22 _ ho3 (stab_rowOf _ _ _ _ _ (HB8.out.trans ((ba.trans hb3).mono HB8.out.size)) HB.out) (Nat.le_trans (by simp) hb3.size) (by simp; omega)
       have H4 := Lib.hid (ba.trans (hb3.trans hb4))
       have gS2 := Lib.hid (same_any (xs ++ bs) v7 va4 W4 (stab_rowOf _ _ _ _ _ H4.out R78.out) (ho4.rowOf.mono (Nat.zero_le _)))
       clear ho3 ho4 hb3 hb4 R78 R7 H2 gS hb8 b78 HB7 ba)
    | (at_builtin; refine wpList_append_want (by rfl) _ _ _ _ rfl _ _ rfl rfl hrun3 ?_; clear hrun3)
    | (at_builtin; refine wpList_append_want (by rfl) _ _ _ _ rfl _ _ rfl rfl hrun4 ?_; clear hrun4)
    | (go_at_call 9; (with_reducible refine gS2.out.mono ?_); rintro e w9 ⟨rfl, hb9⟩; have HB9 := Lib.hid (HB8.out.trans ((H4.out.trans (hb9.mono H4.out.size)).mono HB8.out.size)); clear hb9 gS2))
  go_ret
  exact ⟨rfl, HB9.out⟩
end Go.Proofs.YtfcdldcekdbckacDoor
