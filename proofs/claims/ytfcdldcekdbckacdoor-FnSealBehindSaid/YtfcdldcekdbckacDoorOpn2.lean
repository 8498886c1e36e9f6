/- What was sealed is opened behind bytes that were there. -/
import Derived.Test.YtfcdldcekdbckacDoorOpn
namespace Go.Proofs.YtfcdldcekdbckacDoor
open Go Go.RowKit Gf

set_option maxRecDepth 100000 in
set_option maxHeartbeats 400000 in
theorem sfa_zero (n0 n1 : Nat) (xs : List (BitVec 8)) (v : Value) (w : World) (h : outR n0 n1 xs v w) (hl : xs.length ≤ 2147483647) :
    Calls Tryd.prog 17 #[v, .int .i64 0] w fun e w' => ∃ po co, e = .returned (.tuple #[v, .slice po 0 co]) ∧ w' = w := by
  rcases h with ⟨rfl, rfl⟩ | ⟨N, zs, rfl, h2, h3, h4, h5, h6⟩
  · go_enter Tryd.func17, Tryd.ntmps17
    go_wp2_with (fail)
    go_ret2
    exact ⟨_, _, rfl, rfl⟩
  · obtain ⟨q, hq⟩ : ∃ q, q = xs.length + zs.length := ⟨_, rfl⟩
    have k4 : (xs.length : Int) ≤ (q : Int) := by omega
    rw [← hq]
    clear h2 h3 h4 h5 h6 hq
    go_enter Tryd.func17, Tryd.ntmps17
    go_wp2_with (fail)
    all_goals
      go_ret2
      exact ⟨⟨_, _, rfl⟩, rfl⟩

set_option maxRecDepth 100000 in
set_option maxHeartbeats 400000 in
theorem open_any (T : Tab) (ks ns ct ds : List (BitVec 8)) (G ts : Nat) (D0 : Nat → BitVec 32) (tG : TypeId) (vo vn vc vd : Value) (w : World) (Q : World → Prop) (hT : TabAt T w) (hk : isKey ks) (hlow : nG ≤ G) (hG : objAt w G = some (.cells (gcmC (rOf ks) (kOf T ks) D0 (ns.length : Int) (ts : Int)) tG (0, 0)))
    (hn : rowOf 0 ns vn w) (hc : rowOf 0 (ct ++ (bytesOf (tgOf (ciph T ks) ns ct ds)).take ts) vc w) (hd : rowOf 0 ds vd w) (ht1 : 12 ≤ ts) (ht2 : ts ≤ 16)
    (hnl : ns.length ≤ 2147483647) (hcl : ct.length ≤ 2147483647) (hdl : ds.length ≤ 2147483647)
    (hlast : ∀ (pc : Option Addr) (c Cb : Nat) (W : World), vc = .slice pc (ct.length + ts) c → w.heap.size ≤ Cb → Below w.heap.size w W → objAt W Cb = some (.cells (blk (inc4 (cOf (ciph T ks) ns))) 69 (0, 0)) →
      Calls Tryd.prog 30 #[.pointer (some ⟨G, 0, none⟩), vo, .slice pc ct.length c, .pointer (some ⟨Cb, 0, none⟩)] W fun e w' => e = .returned (.tuple #[]) ∧ Q w') :
    Calls Tryd.prog 18 #[vo, .pointer (some ⟨G, 0, none⟩), vn, vc, vd] w fun e w' => e = .returned .nilIface ∧ Q w' := by
  have GG := Lib.hid (openG_any T ks ns ct ds G ts D0 tG vo vn vc vd w Q hT hk hlow hG hn hc hd ht1 ht2 hnl hcl hdl hlast)
  clear hT hG hn hc hd hlast
  go_enter Tryd.func18, Tryd.ntmps18
  go_wp2_with (go_at_call 22; (with_reducible refine GG.out.mono ?_); rintro e w1 ⟨rfl, hq⟩)
  go_ret
  exact ⟨rfl, hq⟩

/-- A row of bytes is handed back, and no error; only what lies at n0 or behind has turned. -/
def RowE (n0 : Nat) (bs : List (BitVec 8)) (w : World) (e : Ending) (w' : World) : Prop := ∃ v, e = .returned (.tuple #[v, .nilIface]) ∧ rowOf 0 bs v w' ∧ Below n0 w w'
set_option maxRecDepth 100000 in
set_option maxHeartbeats 1000000 in
theorem mopen_any (T : Tab) (ks xs ns ct ds : List (BitVec 8)) (n0 n1 G ts : Nat) (D0 : Nat → BitVec 32) (tG : TypeId) (va vn vc vd : Value) (w : World) (hT : TabAt T w) (hk : isKey ks) (hlow : nG ≤ G) (hG : objAt w G = some (.cells (gcmC (rOf ks) (kOf T ks) D0 (ns.length : Int) (ts : Int)) tG (0, 0)))
    (hGn : G < n0) (hnn : n0 ≤ n1) (hnw : n1 ≤ w.heap.size) (ha : outR n0 n1 xs va w) (hn : rowOf n1 ns vn w) (hc : rowOf n1 (ct ++ (bytesOf (tgOf (ciph T ks) ns ct ds)).take ts) vc w) (hd : rowOf n1 ds vd w) (ht1 : 12 ≤ ts) (ht2 : ts ≤ 16)
    (hal : xs.length ≤ 2147483647) (hnl : ns.length ≤ 2147483647) (hcl : ct.length ≤ 2147483647) (hdl : ds.length ≤ 2147483647) :
    Calls Tryd.prog 13 #[.pointer (some ⟨G, 0, none⟩), va, vn, vc, vd] w (RowE n0 (xs ++ gctr (ciph T ks) (inc4 (cOf (ciph T ks) ns)) ct) w) := by
  have c121 := (objAt_cell hG 121).trans (gcmC_ns _ _ _ _ _)
  have c122 := (objAt_cell hG 122).trans (gcmC_ts _ _ _ _ _)
  have hGl := oa_lt hG
  obtain ⟨l, hl⟩ : ∃ l, l = ct.length := ⟨_, rfl⟩
  obtain ⟨m, hm⟩ : ∃ m, m = l + ts := ⟨_, rfl⟩
  have htl : ((bytesOf (tgOf (ciph T ks) ns ct ds)).take ts).length = ts := by rw [List.length_take, bytesOf_length]; omega
  have hlen : (ct ++ (bytesOf (tgOf (ciph T ks) ns ct ds)).take ts).length = m := by rw [List.length_append, htl, hm, hl]
  have eml : (m : Int) - (ts : Int) = (l : Int) := by omega
  have e0 : ¬ (ts : Int) < 12 := by omega
  have e1 : ¬ (m : Int) < (ts : Int) := by omega
  have e2 : IntKind.u64.wrap (m : Int) = (m : Int) := by rw [IntKind.wrap_u64]; omega
  have e3 : IntKind.u64.wrap (ts : Int) = (ts : Int) := by rw [IntKind.wrap_u64]; omega
  have e4 : IntKind.u64.wrap (68719476704 + (ts : Int)) = 68719476704 + (ts : Int) := by rw [IntKind.wrap_u64]; omega
  have e5 : ¬ 68719476704 + (ts : Int) < (m : Int) := by omega
  -- the call of open, whatever place
  have GO := Lib.hid (fun (vo : Value) (w1 : World) (Q : World → Prop) (hb : Below w.heap.size w w1) (hlast) => open_any T ks ns ct ds G ts D0 tG vo vn vc vd w1 Q (hT.below hb hT.sz) hk hlow (oa_below hG hb hGl) (stab_rowOf _ _ _ _ _ hb (hn.mono (Nat.zero_le _))) (stab_rowOf _ _ _ _ _ hb (hc.mono (Nat.zero_le _))) (stab_rowOf _ _ _ _ _ hb (hd.mono (Nat.zero_le _))) ht1 ht2 hnl hcl hdl hlast)
  by_cases hz : ct = []
  · subst hz
    obtain rfl : l = 0 := by simpa using hl
    have gA := sfa_zero n0 n1 xs va w ha hal
    have hpt : xs ++ gctr (ciph T ks) (inc4 (cOf (ciph T ks) ns)) [] = xs := by
      have : gctr (ciph T ks) (inc4 (cOf (ciph T ks) ns)) [] = [] := List.length_eq_zero_iff.1 (gctr_length _ _ _)
      rw [this, List.append_nil]
    rw [hpt]
    have G2 := Lib.hid (fun (po : Option Addr) (co : Nat) => GO.out (.slice po 0 co) w (fun w' => Below w.heap.size w w') (Below.refl _ _) (fun pc c Cb W _ _ hb _ => (ctrG_nil G Cb co c po pc W).mono fun e w' ⟨he, hb'⟩ => ⟨he, hb.trans (hb'.mono hb.size)⟩))
    have hra : ∀ W, Below w.heap.size w W → rowOf 0 xs va W := fun W hb => by
      have ha' := ha.below hb hnw
      rcases ha' with ⟨rfl, rfl⟩ | ⟨N, zs, rfl, h2, h3, h4, h5, h6⟩
      · exact rowOf_nil _ _
      · exact rowOf_obj (n0 := 0) h4 (bs := xs) (o := 0) (fun i x hx => by rw [Nat.zero_add, tA, bcells_get, List.getElem?_append_left (List.getElem?_eq_some_iff.1 hx).1, hx]; rfl) (Nat.zero_le _) (by omega) (by simp only [maxLen] at h5; omega)
    have HRA := Lib.hid hra
    obtain ⟨pn, cn, rfl⟩ := hn.slice
    obtain ⟨pc, cc, rfl⟩ := hc.slice
    obtain ⟨pd, cd, rfl⟩ := hd.slice
    obtain ⟨pa, ca, rfl⟩ := ha.slice
    rw [hlen] at G2 ⊢
    clear hT hG hn hc hd ha GO hra hlen htl hpt hl hm
    go_enter Tryd.func13, Tryd.ntmps13
    go_wp2_with (first
      | (go_at_call 17; (with_reducible refine gA.mono ?_); rintro e w1 ⟨po, co, rfl, hw1⟩; replace hw1 := hw1.symm; subst hw1; have g2 := Lib.hid (G2.out po co))
      | (go_at_call 18; (with_reducible refine g2.out.mono ?_); rintro e w2 ⟨rfl, hb2⟩; have HB2 := Lib.hid hb2; clear hb2 g2))
    go_ret2
    exact ⟨_, rfl, HRA.out _ HB2.out, HB2.out.mono (by omega)⟩
  · have hl0 : 0 < l := by rw [hl]; exact List.length_pos_iff.2 hz
    have gA := sfa_any n0 n1 xs va l w ha (by omega) hl0 (by omega)
    obtain ⟨pt, hpt⟩ : ∃ pt, pt = gctr (ciph T ks) (inc4 (cOf (ciph T ks) ns)) ct := ⟨_, rfl⟩
    have hpl : pt.length = l := by rw [hpt, gctr_length, hl]
    rw [← hpt]
    have GS := Lib.hid (fun (N : Nat) (ys : List (BitVec 8)) (w1 : World) (hN : n0 ≤ N) (hN2 : N < n1 ∨ N = w.heap.size) (hy : l ≤ ys.length) (hy2 : xs.length + ys.length ≤ maxLen) (ho : objAt w1 N = some (.cells (bcells (xs ++ ys)).toArray 5 (0, 0))) (hb : Below w.heap.size w w1) =>
      GO.out (.slice (some ⟨N, xs.length, none⟩) l ys.length) w1 (fun w' => objAt w' N = some (.cells (putL (bcells (xs ++ ys)).toArray xs.length pt) 5 (0, 0)) ∧ Below n0 w w') hb (fun pc c Cb W hvc hCb hbW hC => (by
        have hz1 := hb.size
        have hNl := oa_lt ho
        have hbb := hb.trans (hbW.mono hz1)
        have hrow := hc.rowAt (Y := N) (by omega)
        obtain ⟨p', c', e', hc1, hc2, _⟩ := hc
        rw [hlen] at hc1
        rw [hvc] at hrow e'
        simp only [Value.slice.injEq] at e'
        obtain ⟨rfl, _, rfl⟩ := e'
        obtain ⟨S, os, hSD, hSw, hS, hSp⟩ := hrow.rdL G (by omega)
        have hSl : S < w.heap.size := by rcases hSw with h | h <;> omega
        have hS2 : RdL W S os ct := fun i x hx => (cell_same (hbb.block S hSl) _).trans (hS i x (by rw [List.getElem?_append_left (List.getElem?_eq_some_iff.1 hx).1]; exact hx))
        refine (ctrG_any T ks ct G N Cb S xs.length os l ys.length c pc (bcells (xs ++ ys)).toArray 5 69 (inc4 (cOf (ciph T ks) ns)) W ⟨hT.below hbb hT.sz, ⟨_, _, _, oa_below hG hbb hGl, gcmC_key _ _ _ _ _⟩, hk, hlow⟩ (oa_below ho hbW hNl) hC hS2 (fun h => hSp (by simp [h])) (room_behind xs ys _ (by omega)) ⟨by omega, hy, by simp only [maxLen] at hy2; omega, by omega, by omega, .inl hSD, by omega, by omega, by omega, by omega, by omega, by omega⟩).mono fun e w' he => ?_
        obtain ⟨he, ho', _, hk'⟩ := he
        rw [← hpt] at ho'
        exact ⟨he, ho', (hbb.mono (by omega)).trans (hk'.below hN (by omega))⟩)))
    have HPL := Lib.hid hpl
    obtain ⟨pn, cn, rfl⟩ := hn.slice
    obtain ⟨pc, cc, rfl⟩ := hc.slice
    obtain ⟨pd, cd, rfl⟩ := hd.slice
    obtain ⟨pa, ca, rfl⟩ := ha.slice
    rw [hlen] at GS ⊢
    clear hT hG hn hc hd ha GO hlen htl hpt hl hm hpl
    go_enter Tryd.func13, Tryd.ntmps13
    go_wp2_with (first
      | (go_at_call 17; (with_reducible refine gA.mono ?_); rintro e w1 ⟨N, ys, rfl, hN, hN2, hy, hy2, ho, hb⟩; have gs := Lib.hid (GS.out N ys w1 hN hN2 hy hy2 ho hb); clear ho hb gA)
      | (go_at_call 18; (with_reducible refine gs.out.mono ?_); rintro e w2 ⟨rfl, ho2, hb2⟩; have HO := Lib.hid ho2; have HB2 := Lib.hid hb2; clear ho2 hb2 gs))
    go_ret2
    refine ⟨_, rfl, ?_, HB2.out⟩
    have h := rowOf_obj (n0 := 0) (c := xs.length + ys.length) HO.out (put_behind xs ys pt (by rw [HPL.out]; exact hy)) (Nat.zero_le _) (by rw [List.length_append, HPL.out]; omega) (by simp only [maxLen] at hy2; omega)
    rwa [List.length_append, HPL.out] at h
end Go.Proofs.YtfcdldcekdbckacDoor
