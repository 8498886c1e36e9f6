/- The law: zeros that fill an input up to whole blocks make no difference. -/
import Derived.Test.YtdaebcaokoajjaaJoined
namespace Go.Proofs.Ytdaebcaokoajjaa
open Go Go.RowKit Gf

set_option maxHeartbeats 4000000 in
theorem filled_end (key : BitVec 128) (es bs : List (BitVec 8)) (hfew : es.length + bs.length ≤ 16384) (p p' : Option Addr) (c c' : Nat) (w : World) (h : rowOf 0 es (.slice p es.length c) w) (h' : rowOf 0 bs (.slice p' bs.length c') w) :
    Calls Try.prog 12 #[.agg (blk key), .slice p es.length c, .slice p' bs.length c'] w fun e w' => e = .returned (.bool true) ∧ Below w.heap.size w w' := by
  have q0 : objAt (w.alloc (.cells (blk key) 27)) w.heap.size = some (.cells (blk key) 27 (0, 0)) := objAt_alloc_at _ _ _ rfl
  have b0 : Below w.heap.size w (w.alloc (.cells (blk key) 27)) := (Below.refl _ w).alloc (Nat.le_refl _) _
  have ra := stab_rowOf _ _ _ _ _ b0 h
  have rb := stab_rowOf _ _ _ _ _ b0 h'
  have k1 : ¬ (2147483647 < (es.length : Int)) := by omega
  have k1' : ¬ (2147483647 < (bs.length : Int)) := by omega
  have gf := few_any [es, bs] (.slice (some ⟨w.heap.size + 1, 0, none⟩) 2 2) _ (rows_new2 ra rb (by simp))
  rw [total_two, decide_eq_true hfew] at gf
  have B0 := Lib.hid (b0.trans ((Below.refl _ _).alloc b0.size (.cells #[.slice p es.length c, .slice p' bs.length c'] 35)))
  have q0' := oa_alloc q0 (.cells #[.slice p es.length c, .slice p' bs.length c'] 35)
  have hh := Lib.hid h
  have hh' := Lib.hid h'
  clear q0 b0 ra rb h h'
  obtain ⟨n, hn⟩ : ∃ n, n = (16 - es.length % 16) % 16 := ⟨_, rfl⟩
  have hn16 : n < 16 := by omega
  have m0 : IntKind.i64.wrap (16 - (es.length : Int) % 16) = 16 - (es.length : Int) % 16 := by rw [IntKind.wrap_i64]; omega
  have m1 : (16 - (es.length : Int) % 16) % 16 = (n : Int) := by omega
  have hfl := Lib.hid (show hashOf [es ++ List.replicate n 0#8, bs] key = hashOf [es, bs] key from hn ▸ filled es bs key)
  clear hn
  go_enter Try.func12, Try.ntmps12
  go_wp2_with (first
    | (go_at_call 29; (with_reducible refine gf.mono ?_); rintro e w1 ⟨rfl, hb1⟩
       have B1 := B0.out.trans (hb1.mono B0.out.size)
       have z1 := oa_lt q0'
       have z2 := hb1.size
       obtain ⟨v5, W5, hrun5, ho5, hb5, hx5⟩ := run_app w1.heap.size [] es (.slice (some ⟨w1.heap.size, 0, none⟩) 0 0) (.slice p es.length c) 35 35 (w1.alloc (.cells #[] 5)) (ownB_nil (Nat.le_refl _)) (src_row (stab_rowOf _ _ _ _ _ (B1.trans ((Below.refl _ _).alloc B1.size (.cells #[] 5))) hh.out)) (by simp) (by simp; omega)
       rw [List.nil_append] at ho5
       obtain ⟨a5, n5, c5, rfl⟩ := rowOf_slice ho5.rowOf
       obtain ⟨v6, W6, hrun6, ho6, hb6, hx6⟩ := run_app0 w1.heap.size es n _ 35 W5 ho5 (by have := hb5.size; simp at this; omega) (by omega)
       rw [← m1] at hrun6
       have hb56 := hb5.trans hb6
       have p6 := oa_below (oa_alloc (oa_below q0' hb1 z1) (.cells #[] 5)) hb56 (by omega)
       have B6 := Lib.hid ((B1.trans ((Below.refl _ _).alloc B1.size (.cells #[] 5))).trans (hb56.mono B1.size))
       have HF := Lib.hid (ho6.rowOf.mono (Nat.zero_le _))
       obtain ⟨a6, n6, c6, rfl⟩ := rowOf_slice ho6.rowOf
       clear m1 hx5 hx6 B1 z1 z2 ho5 hb5 ho6 hb6 hb56 hb1 gf q0' B0)
    | (at_builtin; refine wpList_append_run rfl _ _ _ _ rfl _ _ rfl rfl hrun5 ?_; clear hrun5)
    | (at_builtin; refine wpList_append_run rfl _ _ _ _ rfl _ _ rfl rfl hrun6 ?_; clear hrun6)
    | (go_at_call 30; have ra1 := stab_rowOf _ _ _ _ _ B6.out hh.out; have rb1 := stab_rowOf _ _ _ _ _ B6.out hh'.out; (with_reducible refine (ihash_row key [es, bs] _ _ (rows_new2 ra1 rb1 rfl) (by simp) (by simp; omega)).mono ?_); rintro e w2 ⟨v2, rfl, hb2, hr2⟩
       obtain ⟨gp, gc, rfl⟩ := row_len16 hr2
       have bb := ((Below.refl W6.heap.size W6).alloc (Nat.le_refl _) (.cells #[.slice p es.length c, .slice p' bs.length c'] 35)).trans (hb2.mono (by simp))
       have q2 := oa_below p6 bb (oa_lt p6)
       have hf2 := Lib.hid (stab_rowOf _ _ _ _ _ bb HF.out)
       have B2 := Lib.hid (B6.out.trans (bb.mono B6.out.size))
       have hr2' := Lib.hid hr2
       clear hb2 hr2 p6 B6 bb HF ra1 rb1)
    | (go_at_call 30; have rb2 := stab_rowOf _ _ _ _ _ B2.out hh'.out; have f2 := hf2.out; (with_reducible refine (ihash_row key [es ++ List.replicate n 0#8, bs] _ _ (rows_new2 f2 rb2 rfl) (by simp) (by simp; omega)).mono ?_); rintro e w3 ⟨v3, rfl, hb3, hr3⟩
       rw [hfl.out] at hr3
       have bb := ((Below.refl w2.heap.size w2).alloc (Nat.le_refl _) (.cells #[.slice a6 n6 c6, .slice p' bs.length c'] 35)).trans (hb3.mono (by simp))
       have B3 := Lib.hid (B2.out.trans (bb.mono B2.out.size))
       have rg := Lib.hid (stab_rowOf _ _ _ _ _ bb (hr2'.out.mono (Nat.zero_le _)))
       have r3 := Lib.hid (hr3.mono (Nat.zero_le _))
       clear hb3 hr3 B2 bb rb2 f2 hf2 hr2' q2)
    | (go_at_call 31; have g1 := rg.out; have g2 := r3.out; (with_reducible refine (same_any (bytesOf (hashOf [es, bs] key)) _ _ _ g1 g2).mono ?_); rintro e w4 ⟨rfl, hb4⟩
       have B4 := Lib.hid (B3.out.trans (hb4.mono B3.out.size))
       clear hb4 B3 rg r3 g1 g2))
  go_ret
  exact ⟨rfl, B4.out⟩

set_option maxHeartbeats 1000000 in
theorem filled_is (key : BitVec 128) (es bs : List (BitVec 8)) (v u : Value) (w : World) (h : rowOf 0 es v w) (h' : rowOf 0 bs u w) :
    Calls Try.prog 12 #[.agg (blk key), v, u] w fun e w' => e = .returned (.bool true) ∧ Below w.heap.size w w' := by
  obtain ⟨p, c, rfl⟩ : ∃ p c, v = .slice p es.length c := by
    obtain ⟨p, c, h, _⟩ := h
    exact ⟨p, c, h⟩
  obtain ⟨p', c', rfl⟩ : ∃ p c, u = .slice p bs.length c := by
    obtain ⟨p, c, h, _⟩ := h'
    exact ⟨p, c, h⟩
  have b0 : Below w.heap.size w (w.alloc (.cells (blk key) 27)) := (Below.refl _ w).alloc (Nat.le_refl _) _
  by_cases hlen : es.length ≤ 2147483647
  · have k1 : ¬ (2147483647 < (es.length : Int)) := by omega
    by_cases hlen' : bs.length ≤ 2147483647
    · have k1' : ¬ (2147483647 < (bs.length : Int)) := by omega
      by_cases hfew : es.length + bs.length ≤ 16384
      · exact filled_end key es bs hfew p p' c c' w h h'
      · have gf := few_any [es, bs] (.slice (some ⟨w.heap.size + 1, 0, none⟩) 2 2) _ (rows_new2 (stab_rowOf _ _ _ _ _ b0 h) (stab_rowOf _ _ _ _ _ b0 h') (by simp))
        rw [total_two, decide_eq_false hfew] at gf
        have b1 := Lib.hid (b0.trans ((Below.refl _ _).alloc b0.size (.cells #[.slice p es.length c, .slice p' bs.length c'] 35)))
        clear b0 h h'
        go_enter Try.func12, Try.ntmps12
        go_wp2_with (go_at_call 29; (with_reducible refine gf.mono ?_); rintro e w1 ⟨rfl, hb1⟩; have B1 := Lib.hid (b1.out.trans (hb1.mono b1.out.size)); clear hb1 gf)
        go_ret
        exact ⟨rfl, B1.out⟩
    · have k1' : 2147483647 < (bs.length : Int) := by omega
      clear h h'
      go_enter Try.func12, Try.ntmps12
      go_wp2
      go_ret
      exact ⟨rfl, b0⟩
  · have k1 : 2147483647 < (es.length : Int) := by omega
    clear h h'
    go_enter Try.func12, Try.ntmps12
    go_wp2
    go_ret
    exact ⟨rfl, b0⟩
end Go.Proofs.Ytdaebcaokoajjaa
