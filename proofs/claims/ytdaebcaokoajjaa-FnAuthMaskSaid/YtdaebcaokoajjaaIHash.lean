/- The thin package's Hash: it copies its inputs and hands them to GHASH. -/
import Derived.Test.YtdaebcaokoajjaaHash
namespace Go.Proofs.Ytdaebcaokoajjaa
open Go Go.RowKit Gf

theorem stab_lst (n0 : Nat) (done : List (List (BitVec 8))) : Stab (lst n0 done) := by
  rintro v w w' hb (⟨h1, h2⟩ | ⟨b, cs, h1, h2, h3, h4, h5, h6, h7⟩)
  · exact .inl ⟨h1, h2⟩
  · refine .inr ⟨b, cs, h1, h2, oa_below h3 hb (oa_lt h3), h4, h5, h6, fun i bs hi => ?_⟩
    obtain ⟨rv, g1, g2⟩ := h7 i bs hi
    exact ⟨rv, g1, stab_rowOf _ _ _ _ _ hb g2⟩

theorem copied_s (w : World) (bs : List (BitVec 8)) (v : Value) (h : rowOf 0 bs v w) (hlen : bs.length ≤ 281474976710656) :
    Calls Try.prog 46 #[v] w fun e w' => ∃ vp vn vc, e = .returned (.slice vp vn vc) ∧ Below w.heap.size w w' ∧ rowOf w.heap.size bs (.slice vp vn vc) w' :=
  (copied_any w bs v h hlen).mono fun e w' ⟨v', he, hb, hr⟩ => by
    obtain ⟨vp, vn, vc, hv⟩ := rowOf_slice hr
    rw [hv] at he hr
    exact ⟨vp, vn, vc, he, hb, hr⟩

set_option maxRecDepth 100000 in
set_option maxHeartbeats 2000000 in
theorem ihash_any (key : BitVec 128) (inp : List (List (BitVec 8))) (v : Value) (w : World) (hin : rowsOf 0 inp v w) (hn : inp.length ≤ 2147483647) (hbs : ∀ bs ∈ inp, bs.length ≤ 2147483647) :
    Calls Try.prog 30 #[.agg (blk key), v] w fun e w' => ∃ N, e = .returned (.slice (some ⟨N, 0, none⟩) 16 16) ∧ w.heap.size ≤ N ∧ objAt w' N = some (.cells (blk (hashOf inp key)) 27 (0, 0)) ∧ Below w.heap.size w w' := by
  obtain ⟨p, c, rfl, h2, h3, h4⟩ := hin
  have hH := Lib.hid h4
  clear h4
  go_enter Try.func30, Try.ntmps30
  go_wp2
  go_loopw [5, 10] (fun l i wr => ∃ k : Nat, k ≤ inp.length ∧ i = .int .i64 k ∧ lst (w.heap.size + 1) (inp.take k) l wr ∧ objAt wr w.heap.size = some (.cells (blk key) 27 (0, 0)) ∧ Below w.heap.size w wr) (fun _ i _ => inp.length - (intOf i).toNat)
  case atStart => exact ⟨0, by omega, rfl, .inl ⟨rfl, rfl⟩, objAt_alloc_at _ _ _ rfl, (Below.refl _ w).alloc (Nat.le_refl _) _⟩
  case round =>
    obtain ⟨k, hk, rfl, hl, hkey, hb⟩ := hrel
    have hwz : w.heap.size < wr.heap.size := oa_lt hkey
    by_cases hlt : k < inp.length
    · have hlt' : (k : Int) < inp.length := by omega
      obtain ⟨bs, hbsk⟩ : ∃ bs, inp[k]? = some bs := ⟨_, List.getElem?_eq_getElem hlt⟩
      rcases hH.out with h4 | ⟨rb, ro, rfl, _, hrb, hcells⟩
      · rw [h4] at hlt; simp at hlt
      obtain ⟨rv, hrv, hrow⟩ := hcells k bs hbsk
      have hc : wr.cell? ⟨rb, ro + k, none⟩ = some rv := (cell_same (hb.block rb hrb) _).trans hrv
      have hrow1 : rowOf 0 bs rv wr := by
        obtain ⟨p1, c1, g1, g2, g3, g4⟩ := hrow
        refine ⟨p1, c1, g1, g2, g3, g4.imp id ?_⟩
        rintro ⟨b1, o1, g5, g6, g7, g8⟩
        exact ⟨b1, o1, g5, g6, by have := hb.size; omega, fun i x hx => (cell_same (hb.block b1 g7) _).trans (g8 i x hx)⟩
      have hblen : bs.length ≤ 2147483647 := hbs bs (List.mem_of_getElem? hbsk)
      obtain ⟨rp, rn, rc, erv⟩ := rowOf_slice hrow1
      have hB := Lib.hid hb
      have hR := Lib.hid hrow1
      have hL := Lib.hid hl
      clear hb hrow1 hl hcells hrow hrv hH
      subst erv
      go_wp2_with (first
        | (go_at_call 46; (with_reducible refine (copied_s wr bs _ hR.out (by omega)).mono ?_); rintro e w1 ⟨vp, vn, vc, rfl, hb1, hr1⟩; have z1 := hb1.size; have hc1 := Lib.hid (stab_lst _ _ _ _ _ (hb1.trans ((Below.refl _ w1).alloc z1 (.cells #[.slice vp vn vc] 35))) hL.out); have hr2 := Lib.hid (stab_rowOf _ _ _ _ _ ((Below.refl _ w1).alloc (Nat.le_refl _) (.cells #[.slice vp vn vc] 35)) (hr1.mono (n1 := w.heap.size + 1) (by omega))); have hB1 := Lib.hid (hB.out.trans (hb1.mono (by omega))); obtain ⟨lv', W', hrun, hl', hb2⟩ := run_append_one _ _ bs _ (.slice vp vn vc) w1.heap.size 38 _ hc1.out hr2.out (objAt_alloc_at w1 _ _ rfl) (by simp; omega) (by simp; omega); have hL2 := Lib.hid hl'; have hB2 := Lib.hid hb2; have hk1 := Lib.hid (oa_below hkey hb1 hwz); clear hb1 hr1 hl' hb2)
        | (at_builtin; refine wpList_append_run rfl _ _ _ _ rfl _ _ rfl rfl hrun ?_; clear hrun))
      go_roundw
      case rel =>
        refine ⟨k + 1, by omega, by go_num, ?_, oa_below (oa_alloc hk1.out _) hB2.out (by omega), (hB1.out.alloc (by omega) _).trans (hB2.out.mono (by omega))⟩
        have e : inp.take (k + 1) = inp.take k ++ [bs] := by rw [List.take_add_one, hbsk]; rfl
        rw [e]
        exact hL2.out
      case measure => simp [intOf]; omega
    · obtain rfl : k = inp.length := by omega
      rw [List.take_length] at hl
      have g := gh47_any w.heap.size key 27 inp _ wr hkey (by
        obtain ⟨p1, c1, g1, g2, g3, g4⟩ := hl.rowsOf
        refine ⟨p1, c1, g1, g2, g3, g4.imp id ?_⟩
        rintro ⟨b1, o1, g5, g6, g7, g8⟩
        exact ⟨b1, o1, g5, by omega, g7, fun i bs hi => (by
          obtain ⟨rv, k1, k2⟩ := g8 i bs hi
          exact ⟨rv, k1, k2.mono (by omega)⟩)⟩)
      have hB := Lib.hid hb
      clear hb hl
      go_wp2_with (go_at_call 47; (with_reducible refine g.mono ?_); rintro e w1 ⟨rfl, g2, hb1⟩; have hB1 := Lib.hid hb1; clear hb1)
      go_ret
      exact ⟨wr.heap.size, rfl, by omega, g2, hB.out.trans (hB1.out.mono (by omega))⟩
end Go.Proofs.Ytdaebcaokoajjaa
