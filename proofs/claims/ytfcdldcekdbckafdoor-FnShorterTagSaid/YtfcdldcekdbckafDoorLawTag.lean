/- The law of tags: a shorter tag is the beginning of the longest one. -/
import Derived.Test.YtfcdldcekdbckafDoorSeal
import Derived.Test.YtfcdldcekdbckafDoorLh
namespace Go.Proofs.YtfcdldcekdbckafDoor
open Go Go.RowKit Gf

def TrueP (w : World) (e : Ending) (w' : World) : Prop := e = .returned (.bool true) ∧ Below w.heap.size w w'
theorem rowsOf_three {xs bs cs : List (BitVec 8)} {u v t : Value} {w : World} (ha : rowOf 0 xs u w) (hb : rowOf 0 bs v w) (hc : rowOf 0 cs t w) : rowsOf 0 [xs, bs, cs] (.slice (some ⟨w.heap.size, 0, none⟩) 3 3) (w.alloc (.cells #[u, v, t] 22)) := by
  have b : Below w.heap.size w (w.alloc (.cells #[u, v, t] 22)) := (Below.refl _ _).alloc (Nat.le_refl _) _
  exact rowsOf_mk (vs := [u, v, t]) (inp := [xs, bs, cs]) (objAt_alloc_at w (.cells #[u, v, t] 22) _ rfl) (Nat.zero_le _) (by simp) (fun i zs hi => by
    match i, hi with
    | 0, hi =>
      obtain rfl : xs = zs := by simpa using hi
      exact ⟨u, rfl, stab_rowOf _ _ _ _ _ b ha⟩
    | 1, hi =>
      obtain rfl : bs = zs := by simpa using hi
      exact ⟨v, rfl, stab_rowOf _ _ _ _ _ b hb⟩
    | 2, hi =>
      obtain rfl : cs = zs := by simpa using hi
      exact ⟨t, rfl, stab_rowOf _ _ _ _ _ b hc⟩
    | i + 3, hi => simp at hi)
theorem total_three (xs bs cs : List (BitVec 8)) : total [xs, bs, cs] = xs.length + bs.length + cs.length := by simp [total]; omega
/-- Whether a tag may have so many bytes. -/
def tagB (t : Int) : Bool := decide (12 ≤ t ∧ t ≤ 16)
theorem isTag_any (t : Int) (w : World) : Calls Tryd.prog 7 #[.int .i64 t] w fun e w' => e = .returned (.bool (tagB t)) ∧ w' = w := by
  unfold tagB
  by_cases h1 : 12 ≤ t
  · by_cases h2 : t ≤ 16
    · rw [decide_eq_true ⟨h1, h2⟩]
      go_enter Tryd.func7, Tryd.ntmps7
      go_wp2
      go_ret
      exact ⟨rfl, rfl⟩
    · rw [decide_eq_false (fun h => h2 h.2)]
      go_enter Tryd.func7, Tryd.ntmps7
      go_wp2
      go_ret
      exact ⟨rfl, rfl⟩
  · rw [decide_eq_false (fun h => h1 h.1)]
    go_enter Tryd.func7, Tryd.ntmps7
    go_wp2
    go_ret
    exact ⟨rfl, rfl⟩
set_option maxRecDepth 100000 in
set_option maxHeartbeats 4000000 in
theorem tag_out (ks ns bs ds : List (BitVec 8)) (t : Int) (vk vn vb vd : Value) (w : World) (hrk : rowOf 0 ks vk w) (hrn : rowOf 0 ns vn w) (hrb : rowOf 0 bs vb w) (hrd : rowOf 0 ds vd w)
    (h : 2147483647 < ks.length ∨ 2147483647 < ns.length ∨ 2147483647 < bs.length ∨ 2147483647 < ds.length ∨ keyB ks.length = false ∨ tagB t = false ∨ ns.length = 0 ∨ 16384 < ns.length + bs.length + ds.length) :
    Calls Tryd.prog 4 #[vk, .int .i64 t, vn, vb, vd] w (TrueP w) := by
  have gK := isKey_any ks vk w hrk
  have HN := Lib.hid hrn
  have HB := Lib.hid hrb
  have HD := Lib.hid hrd
  obtain ⟨pk, ck, rfl⟩ := hrk.slice
  obtain ⟨pn, cn, rfl⟩ := hrn.slice
  obtain ⟨pb, cb, rfl⟩ := hrb.slice
  obtain ⟨pd, cd, rfl⟩ := hrd.slice
  clear hrk hrn hrb hrd
  by_cases h1 : 2147483647 < ks.length
  · have h1' : 2147483647 < (ks.length : Int) := by omega
    clear h
    go_enter Tryd.func4, Tryd.ntmps4
    go_wp2_with (fail)
    go_ret
    exact ⟨rfl, Below.refl _ _⟩
  have h1' : ¬ 2147483647 < (ks.length : Int) := by omega
  by_cases h2 : 2147483647 < ns.length
  · have h2' : 2147483647 < (ns.length : Int) := by omega
    clear h
    go_enter Tryd.func4, Tryd.ntmps4
    go_wp2_with (fail)
    go_ret
    exact ⟨rfl, Below.refl _ _⟩
  have h2' : ¬ 2147483647 < (ns.length : Int) := by omega
  by_cases h3 : 2147483647 < bs.length
  · have h3' : 2147483647 < (bs.length : Int) := by omega
    clear h
    go_enter Tryd.func4, Tryd.ntmps4
    go_wp2_with (fail)
    go_ret
    exact ⟨rfl, Below.refl _ _⟩
  have h3' : ¬ 2147483647 < (bs.length : Int) := by omega
  by_cases h4 : 2147483647 < ds.length
  · have h4' : 2147483647 < (ds.length : Int) := by omega
    clear h
    go_enter Tryd.func4, Tryd.ntmps4
    go_wp2_with (fail)
    go_ret
    exact ⟨rfl, Below.refl _ _⟩
  have h4' : ¬ 2147483647 < (ds.length : Int) := by omega
  cases h5 : keyB ks.length with
  | false =>
    rw [h5] at gK
    clear h h5
    go_enter Tryd.func4, Tryd.ntmps4
    go_wp2_with (go_at_call 6; (with_reducible refine gK.mono ?_); rintro e w2 ⟨rfl, hb2⟩; have HB2 := Lib.hid hb2; clear hb2)
    go_ret
    exact ⟨rfl, HB2.out⟩
  | true =>
    rw [h5] at gK
    have h' : tagB t = false ∨ ns.length = 0 ∨ 16384 < ns.length + bs.length + ds.length := by
      rw [h5] at h
      rcases h with h | h | h | h | h | h
      · omega
      · omega
      · omega
      · omega
      · cases h
      · exact h
    clear h h5
    have gT := fun w => isTag_any t w
    cases h6 : tagB t with
    | false =>
      rw [h6] at gT
      clear h' h6
      go_enter Tryd.func4, Tryd.ntmps4
      go_wp2_with (first
        | (go_at_call 6; (with_reducible refine gK.mono ?_); rintro e w2 ⟨rfl, hb2⟩; have HB2 := Lib.hid hb2; clear hb2)
        | (go_at_call 7; (with_reducible refine (gT _).mono ?_); rintro e w3 ⟨rfl, hw3⟩; replace hw3 := hw3.symm; subst hw3))
      go_ret
      exact ⟨rfl, HB2.out⟩
    | true =>
      rw [h6] at gT
      by_cases h7 : ns.length = 0
      · have hl0 : ((ns.length : Int) == 0) = true := by simp; exact List.length_eq_zero_iff.1 h7
        have H7 := Lib.hid h7
        clear h' h6 h7
        go_enter Tryd.func4, Tryd.ntmps4
        go_wp2_with (first
          | (go_at_call 6; (with_reducible refine gK.mono ?_); rintro e w2 ⟨rfl, hb2⟩; have HB2 := Lib.hid hb2; clear hb2)
          | (go_at_call 7; (with_reducible refine (gT _).mono ?_); rintro e w3 ⟨rfl, hw3⟩; replace hw3 := hw3.symm; subst hw3))
        go_ret
        exact ⟨rfl, HB2.out⟩
      · have hl0 : ((ns.length : Int) == 0) = false := by simp; intro h; subst h; exact h7 rfl
        have h8 : ¬ ns.length + bs.length + ds.length ≤ 16384 := by rcases h' with h | h | h; rw [h6] at h; cases h; omega; omega
        have H8 := Lib.hid h8
        clear h' h6 h7 h8
        go_enter Tryd.func4, Tryd.ntmps4
        go_wp2_with (first
          | (go_at_call 6; (with_reducible refine gK.mono ?_); rintro e w2 ⟨rfl, hb2⟩; have HB2 := Lib.hid hb2; clear hb2)
          | (go_at_call 7; (with_reducible refine (gT _).mono ?_); rintro e w3 ⟨rfl, hw3⟩; replace hw3 := hw3.symm; subst hw3))
        have b3 : Below w2.heap.size w2 (w2.alloc (.cells #[.slice pn ns.length cn, .slice pb bs.length cb, .slice pd ds.length cd] 22)) := (Below.refl _ _).alloc (Nat.le_refl _) _
        have gF := few_any [ns, bs, ds] _ _ (rowsOf_three (stab_rowOf _ _ _ _ _ HB2.out HN.out) (stab_rowOf _ _ _ _ _ HB2.out HB.out) (stab_rowOf _ _ _ _ _ HB2.out HD.out))
        rw [total_three, decide_eq_false H8.out] at gF
        have HB3 := Lib.hid (HB2.out.trans (b3.mono HB2.out.size))
        clear b3
        go_wp2_with (go_at_call 8; (with_reducible refine gF.mono ?_); rintro e w4 ⟨rfl, hb4⟩; have HB4 := Lib.hid hb4; clear hb4)
        go_ret
        exact ⟨rfl, HB3.out.trans (HB4.out.mono HB3.out.size)⟩
set_option maxRecDepth 100000 in
set_option maxHeartbeats 4000000 in
theorem tag_in (T : Tab) (ks ns bs ds : List (BitVec 8)) (t : Nat) (vk vn vb vd : Value) (w : World) (hT : TabAt T w) (hrk : rowOf 0 ks vk w) (hrn : rowOf 0 ns vn w) (hrb : rowOf 0 bs vb w) (hrd : rowOf 0 ds vd w) (hk : isKey ks)
    (ht1 : 12 ≤ t) (ht2 : t ≤ 16) (hn0 : 0 < ns.length) (hl : ns.length + bs.length + ds.length ≤ 16384) :
    Calls Tryd.prog 4 #[vk, .int .i64 (t : Int), vn, vb, vd] w (TrueP w) := by
  have gK := isKey_any ks vk w hrk
  rw [show keyB ks.length = true by unfold keyB; unfold isKey at hk; simpa using hk] at gK
  have gT := fun w => isTag_any (t : Int) w
  rw [show tagB (t : Int) = true by unfold tagB; simp; omega] at gT
  have HK := Lib.hid hrk
  have HN := Lib.hid hrn
  have HB := Lib.hid hrb
  have HD := Lib.hid hrd
  have HT := Lib.hid hT
  obtain ⟨pk, ck, rfl⟩ := hrk.slice
  obtain ⟨pn, cn, rfl⟩ := hrn.slice
  obtain ⟨pb, cb, rfl⟩ := hrb.slice
  obtain ⟨pd, cd, rfl⟩ := hrd.slice
  have h1' : ¬ 2147483647 < (ks.length : Int) := by unfold isKey at hk; omega
  have h2' : ¬ 2147483647 < (ns.length : Int) := by omega
  have h3' : ¬ 2147483647 < (bs.length : Int) := by omega
  have h4' : ¬ 2147483647 < (ds.length : Int) := by omega
  have hl0 : ((ns.length : Int) == 0) = false := by simp; intro h; subst h; simp at hn0
  clear hrk hrn hrb hrd hT
  go_enter Tryd.func4, Tryd.ntmps4
  go_wp2_with (first
    | (go_at_call 6; (with_reducible refine gK.mono ?_); rintro e w2 ⟨rfl, hb2⟩; have HB2 := Lib.hid hb2; clear hb2)
    | (go_at_call 7; (with_reducible refine (gT _).mono ?_); rintro e w3 ⟨rfl, hw3⟩; replace hw3 := hw3.symm; subst hw3))
  have b3 : Below w2.heap.size w2 (w2.alloc (.cells #[.slice pn ns.length cn, .slice pb bs.length cb, .slice pd ds.length cd] 22)) := (Below.refl _ _).alloc (Nat.le_refl _) _
  have gF := few_any [ns, bs, ds] _ _ (rowsOf_three (stab_rowOf _ _ _ _ _ HB2.out HN.out) (stab_rowOf _ _ _ _ _ HB2.out HB.out) (stab_rowOf _ _ _ _ _ HB2.out HD.out))
  rw [total_three, decide_eq_true hl] at gF
  have HB3 := Lib.hid (HB2.out.trans (b3.mono HB2.out.size))
  clear b3 HB2
  generalize w2.alloc (.cells #[.slice pn ns.length cn, .slice pb bs.length cb, .slice pd ds.length cd] 22) = w3 at *
  obtain ⟨E, hE⟩ : ∃ E, E = ciph T ks := ⟨_, rfl⟩
  have HE := Lib.hid hE
  clear hE
  obtain ⟨s1, hs1⟩ : ∃ s, s = sealL E ns bs ds t := ⟨_, rfl⟩
  obtain ⟨s2, hs2⟩ : ∃ s, s = sealL E ns bs ds 16 := ⟨_, rfl⟩
  obtain ⟨n, hn⟩ : ∃ n, n = bs.length + t := ⟨_, rfl⟩
  obtain ⟨m, hm⟩ : ∃ m, m = bs.length + 16 := ⟨_, rfl⟩
  have en : (bs.length : Int) + (t : Int) = (n : Int) := by omega
  have em : (bs.length : Int) + 16 = (m : Int) := by omega
  have enm : (n : Int) ≤ (m : Int) := by omega
  have enc : n ≤ m := by omega
  have epos : 0 < n := by omega
  have hl1 : s1.length = bs.length + t := by rw [hs1, sealL_length _ _ _ _ _ ht2]
  have hl2 : s2.length = bs.length + 16 := by rw [hs2, sealL_length _ _ _ _ _ (Nat.le_refl _)]
  have ht : s2.take (bs.length + t) = s1 := by
    rw [hs1, hs2]
    unfold sealL
    have hc := ctOf_length E ns bs
    rw [← hc, List.take_length_add_append, List.take_take, Nat.min_eq_left ht2]
  rw [← hn] at hl1 ht
  rw [← hm] at hl2
  have HNN := Lib.hid hn
  have HMM := Lib.hid hm
  clear hn hm
  have HS1 := Lib.hid hs1
  have HS2 := Lib.hid hs2
  have HL1 := Lib.hid hl1
  have HL2 := Lib.hid hl2
  have HTT := Lib.hid ht
  clear hs1 hs2 hl1 hl2 ht
  have GS := Lib.hid (fun (ts : Nat) (W : World) (hb : Below w.heap.size w W) (h1 : 12 ≤ ts) (h2 : ts ≤ 16) => iseal_nil T ks ns bs ds ts _ _ _ _ W (HT.out.below hb HT.out.sz) hk (stab_rowOf _ _ _ _ _ hb HK.out) (stab_rowOf _ _ _ _ _ hb HN.out) (stab_rowOf _ _ _ _ _ hb HB.out) (stab_rowOf _ _ _ _ _ hb HD.out) h1 h2 hn0 (by omega) (by omega) (by omega))
  go_wp2_with (first
    | (go_at_call 8; (with_reducible refine gF.mono ?_); rintro e w4 ⟨rfl, hb4⟩; have HB4 := Lib.hid (HB3.out.trans (hb4.mono HB3.out.size)); have g1 := Lib.hid (GS.out t w4 HB4.out ht1 ht2); clear hb4 HB3)
    | (go_at_call 9; (with_reducible refine g1.out.mono ?_); rintro e w5 ⟨v5, rfl, hr5, hb5⟩; rw [← HE.out, ← HS1.out] at hr5; have R5 := Lib.hid hr5; have HB5 := Lib.hid (HB4.out.trans (hb5.mono HB4.out.size)); have g2' := GS.out 16 w5 HB5.out (by decide) (by decide); rw [show ((16 : Nat) : Int) = 16 from rfl] at g2'; have g2 := Lib.hid g2'; clear hb5 hr5 HB4 g1 g2')
    | (go_at_call 9; (with_reducible refine g2.out.mono ?_); rintro e w6 ⟨v6, rfl, hr6, hb6⟩; rw [← HE.out, ← HS2.out] at hr6; have R6 := Lib.hid hr6; have HB6 := Lib.hid (HB5.out.trans (hb6.mono HB5.out.size)); have R56 := Lib.hid (stab_rowOf _ _ _ _ _ hb6 R5.out); clear hb6 hr6 HB5 g2 R5; obtain ⟨p6, c6, rfl, hc6, hm6, h6⟩ := R6.out; rw [HL2.out] at hc6 ⊢; have H6 := Lib.hid h6; have em6 : (m : Int) ≤ (c6 : Int) := (by omega); have hy : rowOf 0 s1 (.slice p6 n c6) w6 := (by
      refine ⟨p6, c6, by rw [HL1.out], by rw [HL1.out]; omega, hm6, ?_⟩
      rcases H6.out with h6 | ⟨b, o, rfl, _, hb, hc⟩
      · have h7 := HL2.out; rw [h6] at h7; simp at h7; omega
      · exact .inr ⟨b, o, rfl, Nat.zero_le _, hb, fun i x hx => hc i x (by rw [← HTT.out, List.getElem?_take] at hx; split at hx; exact hx; cases hx)⟩); have gS := Lib.hid (same_any s1 _ _ w6 R56.out hy); clear R6 h6 hy H6)
    | (go_at_call 10; (with_reducible refine gS.out.mono ?_); rintro e w7 ⟨rfl, hb7⟩; have HB7 := Lib.hid (HB6.out.trans (hb7.mono HB6.out.size)); clear hb7 gS))
  go_ret
  exact ⟨rfl, HB7.out⟩
end Go.Proofs.YtfcdldcekdbckafDoor
