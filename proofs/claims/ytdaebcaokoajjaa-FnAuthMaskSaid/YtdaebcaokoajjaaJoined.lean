/- The law: an input of whole blocks may be joined to the next one. -/
import Derived.Test.YtdaebcaokoajjaaHorner
namespace Go.Proofs.Ytdaebcaokoajjaa
open Go Go.RowKit Gf

/-- A list of two rows, in a block just made. -/
theorem rows_new2 {es bs : List (BitVec 8)} {v u : Value} {w : World} {N : Nat} (h : rowOf 0 es v w) (h' : rowOf 0 bs u w) (hN : N = w.heap.size) : rowsOf 0 [es, bs] (.slice (some ⟨N, 0, none⟩) 2 2) (w.alloc (.cells #[v, u] 35)) := by
  subst hN
  refine ⟨_, 2, rfl, Nat.le_refl _, by decide, .inr ⟨w.heap.size, 0, rfl, Nat.zero_le _, by simp, fun i x hi => ?_⟩⟩
  have hn : objAt (w.alloc (.cells #[v, u] 35)) w.heap.size = some (.cells #[v, u] 35 (0, 0)) := objAt_alloc_at _ _ _ rfl
  match i, hi with
  | 0, hi =>
    obtain rfl : es = x := by simpa using hi
    exact ⟨v, (objAt_cell hn 0).trans rfl, stab_rowOf _ _ _ _ _ ((Below.refl _ _).alloc (Nat.le_refl _) _) h⟩
  | 1, hi =>
    obtain rfl : bs = x := by simpa using hi
    exact ⟨u, (objAt_cell hn 1).trans rfl, stab_rowOf _ _ _ _ _ ((Below.refl _ _).alloc (Nat.le_refl _) _) h'⟩
  | i + 2, hi => simp at hi
theorem total_two (es bs : List (BitVec 8)) : total [es, bs] = es.length + bs.length := by simp [total]
theorem row_len16 {x : BitVec 128} {n0 : Nat} {v : Value} {w : World} (h : rowOf n0 (bytesOf x) v w) : ∃ p c, v = .slice p 16 c := by
  obtain ⟨p, c, h, _⟩ := h
  rw [bytesOf_length] at h
  exact ⟨p, c, h⟩

set_option maxHeartbeats 4000000 in
theorem joined_end (key : BitVec 128) (es bs : List (BitVec 8)) (m : Nat) (hm : es.length = 16 * m) (hfew : es.length + bs.length ≤ 16384) (p p' : Option Addr) (c c' : Nat) (w : World) (h : rowOf 0 es (.slice p es.length c) w) (h' : rowOf 0 bs (.slice p' bs.length c') w) :
    Calls Try.prog 16 #[.agg (blk key), .slice p es.length c, .slice p' bs.length c'] w fun e w' => e = .returned (.bool true) ∧ Below w.heap.size w w' := by
  have q0 : objAt (w.alloc (.cells (blk key) 27)) w.heap.size = some (.cells (blk key) 27 (0, 0)) := objAt_alloc_at _ _ _ rfl
  have b0 : Below w.heap.size w (w.alloc (.cells (blk key) 27)) := (Below.refl _ w).alloc (Nat.le_refl _) _
  have ra := stab_rowOf _ _ _ _ _ b0 h
  have rb := stab_rowOf _ _ _ _ _ b0 h'
  have k1 : ¬ (2147483647 < (es.length : Int)) := by omega
  have k1' : ¬ (2147483647 < (bs.length : Int)) := by omega
  have k2 : (es.length : Int) % 16 = 0 := by omega
  have gf := few_any [es, bs] (.slice (some ⟨w.heap.size + 1, 0, none⟩) 2 2) _ (rows_new2 ra rb (by simp))
  rw [total_two, decide_eq_true hfew] at gf
  have B0 := Lib.hid (b0.trans ((Below.refl _ _).alloc b0.size (.cells #[.slice p es.length c, .slice p' bs.length c'] 35)))
  have q0' := oa_alloc q0 (.cells #[.slice p es.length c, .slice p' bs.length c'] 35)
  have hh := Lib.hid h
  have hh' := Lib.hid h'
  have hm' := Lib.hid hm
  clear q0 b0 ra rb h h' hm
  go_enter Try.func16, Try.ntmps16
  go_wp2_with (first
    | (go_at_call 29; (with_reducible refine gf.mono ?_); rintro e w1 ⟨rfl, hb1⟩; have p0 := oa_below q0' hb1 (oa_lt q0'); have B1 := Lib.hid (B0.out.trans (hb1.mono B0.out.size)); clear hb1 gf q0' B0)
    | (go_at_call 30; have ra1 := stab_rowOf _ _ _ _ _ B1.out hh.out; have rb1 := stab_rowOf _ _ _ _ _ B1.out hh'.out; (with_reducible refine (ihash_row key [es, bs] _ _ (rows_new2 ra1 rb1 rfl) (by simp) (by simp; omega)).mono ?_); rintro e w2 ⟨v2, rfl, hb2, hr2⟩; obtain ⟨gp, gc, rfl⟩ := row_len16 hr2; have q0 := oa_below (oa_alloc p0 (.cells #[.slice p es.length c, .slice p' bs.length c'] 35)) hb2 (oa_lt (oa_alloc p0 (.cells #[.slice p es.length c, .slice p' bs.length c'] 35))); have B2 := Lib.hid ((B1.out.trans ((Below.refl _ _).alloc B1.out.size (.cells #[.slice p es.length c, .slice p' bs.length c'] 35))).trans (hb2.mono (by have := B1.out.size; simp; omega))); have hr2' := Lib.hid hr2; clear hb2 hr2 p0 B1 ra1 rb1))
  have hra := stab_rowOf _ _ _ _ _ B2.out hh.out
  have hrb := stab_rowOf _ _ _ _ _ B2.out hh'.out
  have hg := hr2'.out.mono (Nat.zero_le _)
  have hB0 := B2.out
  have hm := hm'.out
  have p0 := q0
  clear B2 hh hh' hr2' hm' k1 k1' k2 q0
  generalize hW0 : w2 = W0 at p0 hra hrb hg hB0 ⊢
  clear hW0
  refine wp_region_relw (l := [_, _, _, _, _, _, _, _, _, _, _, _, _, _, _]) (last := _) (fun w' => Hid (Below W0.heap.size W0 w'))
    [isv (.slice gp 16 gc), isv (.int .i64 16), isv (.bool true), isv (.bool true), isv (.slice gp 16 gc), isv (.agg (blk key)), ownB W0.heap.size [], isv (.slice p es.length c), ownB W0.heap.size (es), isv (.slice p' bs.length c'), ownB W0.heap.size (es ++ bs), rowsOf 0 [es ++ bs], rowOf 0 (bytesOf (hashOf [es ++ bs] key)), isv (.bool true), isv (.bool true)]
    (by kernel_rfl) (by kernel_rfl) (Lib.hid ((Below.refl _ _).drew)) (fun _ _ hb hS => held0 hb hS) ?rstab ?rops ?rlast
  case rstab => exact stabs_cons (stab_isv _) (stabs_cons (stab_isv _) (stabs_cons (stab_isv _) (stabs_cons (stab_isv _) (stabs_cons (stab_isv _) (stabs_cons (stab_isv _) (stabs_cons (stab_ownB _ _) (stabs_cons (stab_isv _) (stabs_cons (stab_ownB _ _) (stabs_cons (stab_isv _) (stabs_cons (stab_ownB _ _) (stabs_cons (stab_rowsOf _ _) (stabs_cons (stab_rowOf _ _) (stabs_cons (stab_isv _) (stabs_cons (stab_isv _) stabs_nil))))))))))))))
  case rops =>
    refine ⟨?_, ?_, ?_, ?_, ?_, ?_, ?_, ?_, ?_, ?_, ?_, ?_, ?_, ?_, ?_, trivial⟩
    · intro u w' hS hd
      refine .inl (opV_val (v := .slice gp 16 gc) (by rfl) ?_ rfl)
      simp only [frameOf, Act.put, List.setIfInBounds_toArray, List.set_cons_zero, List.set_cons_succ]
      go_simp
    · intro u w' hS hd
      have d0 : u 0 = .slice gp 16 gc := hd ⟨0, .data⟩ (by simp) rfl
      refine .inl (opV_val (v := .int .i64 16) (by rfl) ?_ rfl)
      simp only [frameOf, Act.put, List.setIfInBounds_toArray, List.set_cons_zero, List.set_cons_succ]
      go_simp
    · intro u w' hS hd
      have d1 : u 1 = .int .i64 16 := hd ⟨1, .data⟩ (by simp) rfl
      refine .inl (opV_val (v := .bool true) (by rfl) ?_ rfl)
      simp only [frameOf, Act.put, List.setIfInBounds_toArray, List.set_cons_zero, List.set_cons_succ]
      go_simp
    · intro u w' hS hd
      have d2 : u 2 = .bool true := hd ⟨2, .data⟩ (by simp) rfl
      refine .inl (opV_val (v := .bool true) (by rfl) ?_ rfl)
      simp only [frameOf, Act.put, List.setIfInBounds_toArray, List.set_cons_zero, List.set_cons_succ]
      go_simp
    · intro u w' hS hd
      have d3 : u 3 = .bool true := hd ⟨3, .guard⟩ (by simp) rfl
      refine .inl (opV_val (v := .slice gp 16 gc) (by simp [Region.wanted, yielded, frameOf, Act.put, d3]) ?_ rfl)
      simp only [frameOf, Act.put, List.setIfInBounds_toArray, List.set_cons_zero, List.set_cons_succ]
      go_simp
    · intro u w' hS hd
      have d3 : u 3 = .bool true := hd ⟨3, .guard⟩ (by simp) rfl
      have p0' := oa_below p0 hS.out (oa_lt p0)
      refine .inl (opV_val (v := .agg (blk key)) (by simp [Region.wanted, yielded, frameOf, Act.put, d3]) ?_ rfl)
      simp only [frameOf, Act.put, List.setIfInBounds_toArray, List.set_cons_zero, List.set_cons_succ]
      go_simp
    · intro u w' hS hd
      have d3 : u 3 = .bool true := hd ⟨3, .guard⟩ (by simp) rfl
      refine .inl (opV_make (v := .slice (some ⟨w'.heap.size, 0, none⟩) 0 0) (w' := w'.alloc (.cells #[] 5)) (by simp [Region.wanted, yielded, frameOf, Act.put, d3]) ?_ ((Below.refl _ _).alloc (Nat.le_refl _) _) (ownB_nil hS.out.size))
      simp only [frameOf, Act.put, List.setIfInBounds_toArray, List.set_cons_zero, List.set_cons_succ]
      go_simp
    · intro u w' hS hd
      have d3 : u 3 = .bool true := hd ⟨3, .guard⟩ (by simp) rfl
      refine .inl (opV_val (v := .slice p es.length c) (by simp [Region.wanted, yielded, frameOf, Act.put, d3]) ?_ rfl)
      simp only [frameOf, Act.put, List.setIfInBounds_toArray, List.set_cons_zero, List.set_cons_succ]
      go_simp
    · intro u w' hS hd
      have d6 : (ownB W0.heap.size []) (u 6) w' := hd ⟨6, .data⟩ (by simp) rfl
      have d7 : u 7 = .slice p es.length c := hd ⟨7, .data⟩ (by simp) rfl
      have d3 : u 3 = .bool true := hd ⟨3, .guard⟩ (by simp) rfl
      obtain ⟨v8, W8, hrun8, ho8, hb8, hk8, _⟩ := run_app W0.heap.size ([]) (es) (u 6) (.slice p es.length c) 35 35 w' d6 (src_row (stab_rowOf _ _ _ _ _ hS.out hra)) hS.out.size (by first | omega | (simp; omega))
      rw [List.nil_append] at ho8
      refine .inr ⟨[0, 1, 2, 3, 4, 5, 6, 7, 9], (by simp [Region.wanted, yielded, frameOf, Act.put, d3]), by kernel_rfl, v8, W8, ?_, (Lib.hid (hS.out.trans hb8)), ?_, ho8⟩
      · simp only [frameOf, Act.put, List.setIfInBounds_toArray, List.set_cons_zero, List.set_cons_succ]
        refine run_exec_append _ _ _ _ rfl _ _ ?_ ?_ hrun8
        all_goals go_simp
      · exact free_cons ((fun h => h)) (free_cons ((fun h => h)) (free_cons ((fun h => h)) (free_cons ((fun h => h)) (free_cons ((fun h => h)) (free_cons ((fun h => h)) (free_cons (fun h => hk8 [] _ (Nat.le_refl _) h) (free_cons ((fun h => h)) (free_cons ((fun h => h)) free_nil))))))))
    · intro u w' hS hd
      have d3 : u 3 = .bool true := hd ⟨3, .guard⟩ (by simp) rfl
      refine .inl (opV_val (v := .slice p' bs.length c') (by simp [Region.wanted, yielded, frameOf, Act.put, d3]) ?_ rfl)
      simp only [frameOf, Act.put, List.setIfInBounds_toArray, List.set_cons_zero, List.set_cons_succ]
      go_simp
    · intro u w' hS hd
      have d8 : (ownB W0.heap.size (es)) (u 8) w' := hd ⟨8, .data⟩ (by simp) rfl
      have d9 : u 9 = .slice p' bs.length c' := hd ⟨9, .data⟩ (by simp) rfl
      have d3 : u 3 = .bool true := hd ⟨3, .guard⟩ (by simp) rfl
      obtain ⟨v10, W10, hrun10, ho10, hb10, hk10, _⟩ := run_app W0.heap.size (es) (bs) (u 8) (.slice p' bs.length c') 35 35 w' d8 (src_row (stab_rowOf _ _ _ _ _ hS.out hrb)) hS.out.size (by first | omega | (simp; omega))
      refine .inr ⟨[0, 1, 2, 3, 4, 5, 6, 7, 8, 9], (by simp [Region.wanted, yielded, frameOf, Act.put, d3]), by kernel_rfl, v10, W10, ?_, (Lib.hid (hS.out.trans hb10)), ?_, ho10⟩
      · simp only [frameOf, Act.put, List.setIfInBounds_toArray, List.set_cons_zero, List.set_cons_succ]
        refine run_exec_append _ _ _ _ rfl _ _ ?_ ?_ hrun10
        all_goals go_simp
      · exact free_cons ((fun h => h)) (free_cons ((fun h => h)) (free_cons ((fun h => h)) (free_cons ((fun h => h)) (free_cons ((fun h => h)) (free_cons ((fun h => h)) (free_cons (fun h => hk10 [] _ (Nat.zero_le _) h) (free_cons ((fun h => h)) (free_cons (fun h => hk10 es _ (Nat.le_refl _) h) (free_cons ((fun h => h)) free_nil)))))))))
    · intro u w' hS hd
      have d10 : (ownB W0.heap.size (es ++ bs)) (u 10) w' := hd ⟨10, .data⟩ (by simp) rfl
      have d3 : u 3 = .bool true := hd ⟨3, .guard⟩ (by simp) rfl
      have r10 := d10.rowOf
      obtain ⟨p10, n10, c10, e10⟩ := rowOf_slice r10
      rw [e10] at r10
      refine .inl (opV_make (v := .slice (some ⟨w'.heap.size, 0, none⟩) 1 1) (w' := w'.alloc (.cells #[.slice p10 n10 c10] 35)) (by simp [Region.wanted, yielded, frameOf, Act.put, d3]) ?_ ((Below.refl _ _).alloc (Nat.le_refl _) _) (rowsOf_one (objAt_alloc_at _ _ _ rfl) (Nat.zero_le _) (stab_rowOf _ _ _ _ _ ((Below.refl _ _).alloc (Nat.le_refl _) _) (r10.mono (Nat.zero_le _)))))
      simp only [frameOf, Act.put, List.setIfInBounds_toArray, List.set_cons_zero, List.set_cons_succ]
      go_simp
    · intro u w' hS hd
      have d5 : u 5 = .agg (blk key) := hd ⟨5, .data⟩ (by simp) rfl
      have d11 : (rowsOf 0 [es ++ bs]) (u 11) w' := hd ⟨11, .data⟩ (by simp) rfl
      have d3 : u 3 = .bool true := hd ⟨3, .guard⟩ (by simp) rfl
      refine .inl (opV_call (f := 30) (args := #[.agg (blk key), u 11]) (by simp [Region.wanted, yielded, frameOf, Act.put, d3]) ?_ ((ihash_row key [es ++ bs] (u 11) w' d11 (by simp) (by simp; omega)).mono fun e w2 ⟨v', he, hb, hr⟩ => ⟨v', he, hb, hr.mono (Nat.zero_le _)⟩))
      simp only [frameOf, Act.put, List.setIfInBounds_toArray, List.set_cons_zero, List.set_cons_succ]
      go_simp
    · intro u w' hS hd
      have d4 : u 4 = .slice gp 16 gc := hd ⟨4, .data⟩ (by simp) rfl
      have d12 : (rowOf 0 (bytesOf (hashOf [es ++ bs] key))) (u 12) w' := hd ⟨12, .data⟩ (by simp) rfl
      have d3 : u 3 = .bool true := hd ⟨3, .guard⟩ (by simp) rfl
      rw [joined es bs m hm key] at d12
      refine .inl (opV_callB (f := 31) (args := #[.slice gp 16 gc, u 12]) (by simp [Region.wanted, yielded, frameOf, Act.put, d3]) ?_ (same_any (bytesOf (hashOf [es, bs] key)) (.slice gp 16 gc) (u 12) w' (stab_rowOf _ _ _ _ _ hS.out hg) (d12)))
      simp only [frameOf, Act.put, List.setIfInBounds_toArray, List.set_cons_zero, List.set_cons_succ]
      go_simp
    · intro u w' hS hd
      have d3 : u 3 = .bool true := hd ⟨3, .data⟩ (by simp) rfl
      have d13 : u 13 = .bool true := hd ⟨13, .data⟩ (by simp) rfl
      refine .inl (opV_val (v := .bool true) (by rfl) ?_ rfl)
      simp only [frameOf, Act.put, List.setIfInBounds_toArray, List.set_cons_zero, List.set_cons_succ]
      go_simp
  case rlast =>
    intro u w1 hS hV
    have d14 : u 14 = .bool true := hV 14 (by decide)
    simp only [frameOf, Act.put, List.setIfInBounds_toArray, List.set_cons_zero, List.set_cons_succ]
    simp only [wpOp, List.length_cons, List.length_nil, Nat.zero_add, Nat.reduceAdd]
    go_simp
    refine .inl ?_
    go_wp2
    go_ret
    exact ⟨rfl, hB0.trans (hS.out.mono hB0.size)⟩

set_option maxHeartbeats 1000000 in
theorem joined_is (key : BitVec 128) (es bs : List (BitVec 8)) (v u : Value) (w : World) (h : rowOf 0 es v w) (h' : rowOf 0 bs u w) :
    Calls Try.prog 16 #[.agg (blk key), v, u] w fun e w' => e = .returned (.bool true) ∧ Below w.heap.size w w' := by
  obtain ⟨p, c, rfl⟩ : ∃ p c, v = .slice p es.length c := by
    obtain ⟨p, c, h, _⟩ := h
    exact ⟨p, c, h⟩
  obtain ⟨p', c', rfl⟩ : ∃ p c, u = .slice p bs.length c := by
    obtain ⟨p, c, h, _⟩ := h'
    exact ⟨p, c, h⟩
  have b0 : Below w.heap.size w (w.alloc (.cells (blk key) 27)) := (Below.refl _ w).alloc (Nat.le_refl _) _
  by_cases hlen : es.length ≤ 2147483647
  · have k1 : ¬ (2147483647 < (es.length : Int)) := by omega
    by_cases hlen' : bs.length ≤ 2147483647
    · have k1' : ¬ (2147483647 < (bs.length : Int)) := by omega
      by_cases hm : es.length % 16 = 0
      · by_cases hfew : es.length + bs.length ≤ 16384
        · exact joined_end key es bs (es.length / 16) (by omega) hfew p p' c c' w h h'
        · have k2 : (es.length : Int) % 16 = 0 := by omega
          have gf := few_any [es, bs] (.slice (some ⟨w.heap.size + 1, 0, none⟩) 2 2) _ (rows_new2 (stab_rowOf _ _ _ _ _ b0 h) (stab_rowOf _ _ _ _ _ b0 h') (by simp))
          rw [total_two, decide_eq_false hfew] at gf
          have b1 := Lib.hid (b0.trans ((Below.refl _ _).alloc b0.size (.cells #[.slice p es.length c, .slice p' bs.length c'] 35)))
          clear b0 h h'
          go_enter Try.func16, Try.ntmps16
          go_wp2_with (go_at_call 29; (with_reducible refine gf.mono ?_); rintro e w1 ⟨rfl, hb1⟩; have B1 := Lib.hid (b1.out.trans (hb1.mono b1.out.size)); clear hb1 gf)
          go_ret
          exact ⟨rfl, B1.out⟩
      · have k2 : ¬ ((es.length : Int) % 16 = 0) := by omega
        clear h h'
        go_enter Try.func16, Try.ntmps16
        go_wp2
        go_ret
        exact ⟨rfl, b0⟩
    · have k1' : 2147483647 < (bs.length : Int) := by omega
      clear h h'
      go_enter Try.func16, Try.ntmps16
      go_wp2
      go_ret
      exact ⟨rfl, b0⟩
  · have k1 : 2147483647 < (es.length : Int) := by omega
    clear h h'
    go_enter Try.func16, Try.ntmps16
    go_wp2
    go_ret
    exact ⟨rfl, b0⟩
end Go.Proofs.Ytdaebcaokoajjaa
