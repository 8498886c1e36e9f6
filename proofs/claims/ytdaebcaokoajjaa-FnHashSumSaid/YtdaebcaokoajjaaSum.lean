/- The law: the hash of the sum of two inputs of the same length is the sum of their hashes. -/
import Derived.Test.YtdaebcaokoajjaaJoined
namespace Go.Proofs.Ytdaebcaokoajjaa
open Go Go.RowKit Gf

/-- One byte in a block just made, apart from the row's block. -/
def litOut (cv : Value) (n : Nat) (y : BitVec 8) : Value → World → Prop := fun v w => ∃ M, v = .slice (some ⟨M, 0, none⟩) 1 1 ∧ (∀ N c, cv = .slice (some ⟨N, 0, none⟩) n c → M ≠ N) ∧ objAt w M = some (.cells #[.int .u8 (n8 y)] 5 (0, 0))
theorem stab_litOut (cv : Value) (n : Nat) (y : BitVec 8) : Stab (litOut cv n y) := by
  rintro v w w' hb ⟨M, h1, h2, h3⟩
  exact ⟨M, h1, h2, oa_below h3 hb (oa_lt h3)⟩
theorem litOut_new {n0 : Nat} {zs : List (BitVec 8)} {cv : Value} {y : BitVec 8} {w : World} (h : ownB n0 zs cv w) : litOut cv zs.length y (.slice (some ⟨w.heap.size, 0, none⟩) 1 1) (w.alloc (.cells #[.int .u8 (n8 y)] 5)) := by
  refine ⟨_, rfl, fun N c e => ?_, objAt_alloc_at _ _ _ rfl⟩
  obtain ⟨M, cs, h1, _, h3, _⟩ := h
  rw [h1] at e
  have hlt := oa_lt h3
  injection e with e _ _
  injection e with e
  injection e with e _ _
  omega
theorem litOut_row {cv : Value} {n : Nat} {y : BitVec 8} {v : Value} {w : World} (h : litOut cv n y v w) : rowOf 0 [y] v w := by
  obtain ⟨M, rfl, _, h3⟩ := h
  refine ⟨_, 1, rfl, Nat.le_refl _, by decide, .inr ⟨M, 0, rfl, Nat.zero_le _, oa_lt h3, fun i x hx => ?_⟩⟩
  match i, hx with
  | 0, hx =>
    obtain rfl : y = x := by simpa using hx
    exact (objAt_cell h3 0).trans rfl
  | i + 1, hx => simp at hx
theorem litOut_keep {cv : Value} {n : Nat} {y : BitVec 8} {v : Value} {w w' : World} (hk : ∀ M, M < w.heap.size → (∀ N c, cv = .slice (some ⟨N, 0, none⟩) n c → M ≠ N) → objAt w' M = objAt w M) (h : litOut cv n y v w) : litOut cv n y v w' := by
  obtain ⟨M, h1, h2, h3⟩ := h
  exact ⟨M, h1, h2, (hk M (oa_lt h3) h2).trans h3⟩
/-- The sum of two inputs, as far as it has come. -/
def sumTo (xs ys : List (BitVec 8)) (k : Nat) : List (BitVec 8) := (List.zipWith (· ^^^ ·) xs ys).take k
theorem sumTo_length (xs ys : List (BitVec 8)) (k : Nat) (hl : xs.length = ys.length) (hk : k ≤ xs.length) : (sumTo xs ys k).length = k := by
  unfold sumTo; rw [List.length_take, List.length_zipWith]; omega
theorem sumTo_succ (xs ys : List (BitVec 8)) (k : Nat) (x y : BitVec 8) (hx : xs[k]? = some x) (hy : ys[k]? = some y) : sumTo xs ys k ++ [wxor x y] = sumTo xs ys (k + 1) := by
  unfold sumTo
  rw [List.take_add_one, List.getElem?_zipWith, hx, hy]
  rfl
theorem sumTo_all (xs ys : List (BitVec 8)) (hl : xs.length = ys.length) : sumTo xs ys xs.length = List.zipWith (· ^^^ ·) xs ys := by
  unfold sumTo
  rw [List.take_of_length_le (by rw [List.length_zipWith]; omega)]
/-- The cell of a row that was there. -/
theorem row_cell {bs : List (BitVec 8)} {v : Value} {w : World} (h : rowOf 0 bs v w) (k : Nat) (x : BitVec 8) (hx : bs[k]? = some x) : ∃ b o c, v = .slice (some ⟨b, o, none⟩) bs.length c ∧ ∀ w', Below w.heap.size w w' → w'.cell? ⟨b, o + k, none⟩ = some (.int .u8 (n8 x)) := by
  obtain ⟨p, c, rfl, _, _, h4⟩ := h
  have hne : bs ≠ [] := by intro e; rw [e] at hx; simp at hx
  obtain ⟨b, o, rfl, _, hb, hc⟩ := h4.resolve_left hne
  exact ⟨b, o, c, rfl, fun w' hw => (cell_same (hw.block b hb) _).trans (hc k x hx)⟩

set_option maxHeartbeats 4000000 in
theorem sum_end (key : BitVec 128) (es bs : List (BitVec 8)) (hl : es.length = bs.length) (hfew : es.length + bs.length ≤ 16384) (p p' : Option Addr) (c c' : Nat) (w : World) (h : rowOf 0 es (.slice p es.length c) w) (h' : rowOf 0 bs (.slice p' bs.length c') w) :
    Calls Try.prog 15 #[.agg (blk key), .slice p es.length c, .slice p' bs.length c'] w fun e w' => e = .returned (.bool true) ∧ Below w.heap.size w w' := by
  have q0 : objAt (w.alloc (.cells (blk key) 27)) w.heap.size = some (.cells (blk key) 27 (0, 0)) := objAt_alloc_at _ _ _ rfl
  have b0 : Below w.heap.size w (w.alloc (.cells (blk key) 27)) := (Below.refl _ w).alloc (Nat.le_refl _) _
  have ra := stab_rowOf _ _ _ _ _ b0 h
  have rb := stab_rowOf _ _ _ _ _ b0 h'
  have k1 : ¬ (2147483647 < (es.length : Int)) := by omega
  have k1' : ¬ (2147483647 < (bs.length : Int)) := by omega
  have k2 : (es.length : Int) = bs.length := by omega
  have gf := few_any [es, bs] (.slice (some ⟨w.heap.size + 1, 0, none⟩) 2 2) _ (rows_new2 ra rb (by simp))
  rw [total_two, decide_eq_true hfew] at gf
  have B0 := Lib.hid (b0.trans ((Below.refl _ _).alloc b0.size (.cells #[.slice p es.length c, .slice p' bs.length c'] 35)))
  have q0' := oa_alloc q0 (.cells #[.slice p es.length c, .slice p' bs.length c'] 35)
  have hh := Lib.hid h
  have hh' := Lib.hid h'
  have hfew' := Lib.hid hfew
  have hl' := Lib.hid hl
  clear q0 b0 ra rb h h' hl hfew
  go_enter Try.func15, Try.ntmps15
  go_wp2_with (go_at_call 29; (with_reducible refine gf.mono ?_); rintro e W0 ⟨rfl, hb1⟩; have p0 := oa_below q0' hb1 (oa_lt q0'); have BB := Lib.hid (B0.out.trans (hb1.mono B0.out.size)); clear hb1 gf q0' B0)
  have hra := Lib.hid (stab_rowOf _ _ _ _ _ BB.out hh.out)
  have hrb := Lib.hid (stab_rowOf _ _ _ _ _ BB.out hh'.out)
  have P0 := Lib.hid p0
  clear hh hh' k1 k1' k2 p0
  go_loopw [7, 8, 36] (fun cu _ i wr => ∃ (k : Nat) (cv : Value), cv = cu ∧ k ≤ es.length ∧ i = .int .i64 k ∧ Hid (ownB W0.heap.size (sumTo es bs k) cv wr) ∧ Hid (Below W0.heap.size W0 wr)) (fun _ _ i _ => es.length - (intOf i).toNat)
  case atStart => exact ⟨0, _, rfl, Nat.zero_le _, rfl, Lib.hid (ownB_nil (Nat.le_refl _)), Lib.hid ((Below.refl _ _).alloc (Nat.le_refl _) _)⟩
  case round =>
    obtain ⟨k, cv, hcv, hk, rfl, hown, hBr⟩ := hrel
    subst hcv
    by_cases hlt : k < es.length
    · have hlt1 : (k : Int) < es.length := by omega
      have hltb : k < bs.length := by have := hl'.out; omega
      have hlt2 : (k : Int) < bs.length := by omega
      obtain ⟨x, hx⟩ : ∃ x, es[k]? = some x := ⟨_, List.getElem?_eq_getElem hlt⟩
      obtain ⟨y, hy⟩ : ∃ y, bs[k]? = some y := ⟨_, List.getElem?_eq_getElem hltb⟩
      obtain ⟨b1, o1, d1, ev1, hcx⟩ := row_cell hra.out k x hx
      obtain ⟨b2, o2, d2, ev2, hcy⟩ := row_cell hrb.out k y hy
      injection ev1 with ep1 _ ed1
      injection ev2 with ep2 _ ed2
      subst ep1 ed1 ep2 ed2
      have hsl := sumTo_length es bs k hl'.out hk
      have hsum := Lib.hid (sumTo_succ es bs k x y hx hy)
      have hcx' := Lib.hid hcx
      have hcy' := Lib.hid hcy
      have hsz : (sumTo es bs k).length ≤ 16384 := by have := hfew'.out; omega
      clear hcx hcy hx hy hra hrb P0 BB
      go_wp2
      refine wp_region_relw (l := [_, _, _, _, _, _, _, _, _, _, _, _]) (last := _) (fun w' => Hid (Below W0.heap.size W0 w') ∧ ownB W0.heap.size (sumTo es bs k) cv w')
        [isv (cv), isv (.slice (some ⟨b1, o1, none⟩) es.length c), isv (.int .i64 (k : Int)), isv (.pointer (some ⟨b1, o1 + k, none⟩)), isv (.int .u8 (n8 x)), isv (.slice (some ⟨b2, o2, none⟩) bs.length c'), isv (.int .i64 (k : Int)), isv (.pointer (some ⟨b2, o2 + k, none⟩)), isv (.int .u8 (n8 y)), isv (.int .u8 (n8 (wxor x y))), litOut cv (sumTo es bs k).length (wxor x y), ownB W0.heap.size (sumTo es bs k ++ [wxor x y])]
        (by kernel_rfl) (by kernel_rfl) ⟨Lib.hid hBr.out.drew, stab_ownB _ _ _ _ _ ((Below.refl _ _).drew) hown.out⟩ (fun _ _ hb hS => ⟨held0 hb hS.1, stab_ownB _ _ _ _ _ hb hS.2⟩) ?rstab ?rops ?rlast
      case rstab => exact stabs_cons (stab_isv _) (stabs_cons (stab_isv _) (stabs_cons (stab_isv _) (stabs_cons (stab_isv _) (stabs_cons (stab_isv _) (stabs_cons (stab_isv _) (stabs_cons (stab_isv _) (stabs_cons (stab_isv _) (stabs_cons (stab_isv _) (stabs_cons (stab_isv _) (stabs_cons (stab_litOut _ _ _) (stabs_cons (stab_ownB _ _) stabs_nil)))))))))))
      case rops =>
        refine ⟨?_, ?_, ?_, ?_, ?_, ?_, ?_, ?_, ?_, ?_, ?_, ?_, trivial⟩
        · intro u w' hS hd
          refine .inl (opV_val (v := cv) (by rfl) ?_ rfl)
          simp only [frameOf, Act.put, List.setIfInBounds_toArray, List.set_cons_zero, List.set_cons_succ]
          go_simp
        · intro u w' hS hd
          refine .inl (opV_val (v := .slice (some ⟨b1, o1, none⟩) es.length c) (by rfl) ?_ rfl)
          simp only [frameOf, Act.put, List.setIfInBounds_toArray, List.set_cons_zero, List.set_cons_succ]
          go_simp
        · intro u w' hS hd
          refine .inl (opV_val (v := .int .i64 (k : Int)) (by rfl) ?_ rfl)
          simp only [frameOf, Act.put, List.setIfInBounds_toArray, List.set_cons_zero, List.set_cons_succ]
          go_simp
        · intro u w' hS hd
          have d1 : u 1 = .slice (some ⟨b1, o1, none⟩) es.length c := hd ⟨1, .data⟩ (by simp) rfl
          have d2 : u 2 = .int .i64 (k : Int) := hd ⟨2, .data⟩ (by simp) rfl
          refine .inl (opV_val (v := .pointer (some ⟨b1, o1 + k, none⟩)) (by rfl) ?_ rfl)
          simp only [frameOf, Act.put, List.setIfInBounds_toArray, List.set_cons_zero, List.set_cons_succ]
          go_simp
        · intro u w' hS hd
          have d3 : u 3 = .pointer (some ⟨b1, o1 + k, none⟩) := hd ⟨3, .data⟩ (by simp) rfl
          have cx := hcx'.out w' hS.1.out
          refine .inl (opV_val (v := .int .u8 (n8 x)) (by rfl) ?_ rfl)
          simp only [frameOf, Act.put, List.setIfInBounds_toArray, List.set_cons_zero, List.set_cons_succ]
          go_simp
        · intro u w' hS hd
          refine .inl (opV_val (v := .slice (some ⟨b2, o2, none⟩) bs.length c') (by rfl) ?_ rfl)
          simp only [frameOf, Act.put, List.setIfInBounds_toArray, List.set_cons_zero, List.set_cons_succ]
          go_simp
        · intro u w' hS hd
          refine .inl (opV_val (v := .int .i64 (k : Int)) (by rfl) ?_ rfl)
          simp only [frameOf, Act.put, List.setIfInBounds_toArray, List.set_cons_zero, List.set_cons_succ]
          go_simp
        · intro u w' hS hd
          have d5 : u 5 = .slice (some ⟨b2, o2, none⟩) bs.length c' := hd ⟨5, .data⟩ (by simp) rfl
          have d6 : u 6 = .int .i64 (k : Int) := hd ⟨6, .data⟩ (by simp) rfl
          refine .inl (opV_val (v := .pointer (some ⟨b2, o2 + k, none⟩)) (by rfl) ?_ rfl)
          simp only [frameOf, Act.put, List.setIfInBounds_toArray, List.set_cons_zero, List.set_cons_succ]
          go_simp
        · intro u w' hS hd
          have d7 : u 7 = .pointer (some ⟨b2, o2 + k, none⟩) := hd ⟨7, .data⟩ (by simp) rfl
          have cy := hcy'.out w' hS.1.out
          refine .inl (opV_val (v := .int .u8 (n8 y)) (by rfl) ?_ rfl)
          simp only [frameOf, Act.put, List.setIfInBounds_toArray, List.set_cons_zero, List.set_cons_succ]
          go_simp
        · intro u w' hS hd
          have d4 : u 4 = .int .u8 (n8 x) := hd ⟨4, .data⟩ (by simp) rfl
          have d8 : u 8 = .int .u8 (n8 y) := hd ⟨8, .data⟩ (by simp) rfl
          refine .inl (opV_val (v := .int .u8 (n8 (wxor x y))) (by rfl) ?_ rfl)
          simp only [frameOf, Act.put, List.setIfInBounds_toArray, List.set_cons_zero, List.set_cons_succ]
          go_simp
        · intro u w' hS hd
          have d9 : u 9 = .int .u8 (n8 (wxor x y)) := hd ⟨9, .data⟩ (by simp) rfl
          refine .inl (opV_make (v := .slice (some ⟨w'.heap.size, 0, none⟩) 1 1) (w' := w'.alloc (.cells #[.int .u8 (n8 (wxor x y))] 5)) (by rfl) ?_ ((Below.refl _ _).alloc (Nat.le_refl _) _) (litOut_new hS.2))
          simp only [frameOf, Act.put, List.setIfInBounds_toArray, List.set_cons_zero, List.set_cons_succ]
          go_simp
        · intro u w' hS hd
          have d0 : u 0 = cv := hd ⟨0, .data⟩ (by simp) rfl
          have d10 : (litOut cv (sumTo es bs k).length (wxor x y)) (u 10) w' := hd ⟨10, .data⟩ (by simp) rfl
          obtain ⟨v11, W11, hrun11, ho11, hb11, hk11, hm11⟩ := run_app W0.heap.size (sumTo es bs k) [wxor x y] cv (u 10) 35 35 w' hS.2 (src_row (litOut_row d10)) hS.1.out.size (by simp; omega)
          refine .inr ⟨[0, 1, 2, 3, 4, 5, 6, 7, 8, 9, 10], (by rfl), by kernel_rfl, v11, W11, ?_, ⟨Lib.hid (hS.1.out.trans hb11), hk11 _ _ (Nat.le_refl _) hS.2⟩, ?_, ho11⟩
          · simp only [frameOf, Act.put, List.setIfInBounds_toArray, List.set_cons_zero, List.set_cons_succ]
            refine run_exec_append _ _ _ _ rfl _ _ ?_ ?_ hrun11
            all_goals go_simp
          · exact free_cons ((fun h => h)) (free_cons ((fun h => h)) (free_cons ((fun h => h)) (free_cons ((fun h => h)) (free_cons ((fun h => h)) (free_cons ((fun h => h)) (free_cons ((fun h => h)) (free_cons ((fun h => h)) (free_cons ((fun h => h)) (free_cons ((fun h => h)) (free_cons (fun h => litOut_keep hm11 h) free_nil))))))))))
      case rlast =>
        intro u w1 hS hV
        have d11 : (ownB W0.heap.size (sumTo es bs k ++ [wxor x y])) (u 11) w1 := hV 11 (by decide)
        simp only [frameOf, Act.put, List.setIfInBounds_toArray, List.set_cons_zero, List.set_cons_succ]
        simp only [wpOp, List.length_cons, List.length_nil, Nat.zero_add, Nat.reduceAdd]
        go_simp
        refine .inl ?_
        go_wp2
        go_roundw
        case rel => exact ⟨k + 1, _, rfl, by omega, by go_num, Lib.hid (hsum.out ▸ d11), hS.1⟩
        case measure => simp [intOf]; omega
    · obtain rfl : k = es.length := by omega
      have hz0 := Lib.hid (sumTo_all es bs hl'.out ▸ hown.out)
      have pr := oa_below P0.out hBr.out (oa_lt P0.out)
      have rA := Lib.hid (stab_rowOf _ _ _ _ _ hBr.out hra.out)
      have rB := Lib.hid (stab_rowOf _ _ _ _ _ hBr.out hrb.out)
      have Bz := Lib.hid (BB.out.trans (hBr.out.mono BB.out.size))
      have hf1 : es.length ≤ 2147483647 := by have := hfew'.out; omega
      have hf2 : bs.length ≤ 2147483647 := by have := hfew'.out; omega
      have hx2 : ¬ ((es.length : Int) < bs.length) := by have := hl'.out; omega
      clear hown hBr P0 hra hrb BB hfew'
      go_wp2_with (first
        | (go_at_call 30; (with_reducible refine (ihash_row key [es] _ _ (rows_new1 rA.out (by simp)) (by simp) (by simpa using hf1)).mono ?_); rintro e w2 ⟨v2, rfl, hb2, hr2⟩
           have B2 := Lib.hid (((Below.refl wr.heap.size wr).alloc (Nat.le_refl _) (.cells #[.slice p es.length c] 35)).trans (hb2.mono (by simp)))
           have hr2' := Lib.hid hr2
           clear hb2 hr2 rA)
        | (go_at_call 35; (with_reducible refine (blockOf_any (hashOf [es] key) v2 _ (hr2'.out.mono (Nat.zero_le _))).mono ?_); rintro e w3 ⟨rfl, hb3⟩
           have B3 := Lib.hid (B2.out.trans ((hb3.trans ((Below.refl _ _).alloc hb3.size (.cells (blk (hashOf [es] key)) 27))).mono B2.out.size))
           have q3 := objAt_alloc_at w3 (.cells (blk (hashOf [es] key)) 27) _ rfl
           have k3 := oa_below pr B3.out (oa_lt pr)
           have rB3 := Lib.hid (stab_rowOf _ _ _ _ _ B3.out rB.out)
           clear hb3 B2 hr2' rB)
        | (go_at_call 30; (with_reducible refine (ihash_row key [bs] _ _ (rows_new1 rB3.out (by simp)) (by simp) (by simpa using hf2)).mono ?_); rintro e w4 ⟨v4, rfl, hb4, hr4⟩
           have b4 := ((Below.refl _ _).alloc (Nat.le_refl _) (.cells #[.slice p' bs.length c'] 35)).trans (hb4.mono (by simp))
           have B4 := Lib.hid b4
           have hr4' := Lib.hid hr4
           clear hb4 hr4 rB3 b4)
        | (go_at_call 35; (with_reducible refine (blockOf_any (hashOf [bs] key) v4 _ (hr4'.out.mono (Nat.zero_le _))).mono ?_); rintro e w5 ⟨rfl, hb5⟩
           have B5 := B4.out.trans ((hb5.trans ((Below.refl _ _).alloc hb5.size (.cells (blk (hashOf [bs] key)) 27))).mono B4.out.size)
           have p1 := oa_below q3 B5 (oa_lt q3)
           have p0 := oa_below k3 B5 (oa_lt k3)
           have p2 := objAt_alloc_at w5 (.cells (blk (hashOf [bs] key)) 27) _ rfl
           have B6 := Lib.hid (B3.out.trans (B5.mono B3.out.size))
           clear hb5 B4 hr4' B5 q3 k3 B3))
      have hz := (stab_ownB _ _ _ _ _ B6.out hz0.out).rowOf.mono (Nat.zero_le _)
      have hB0 := Bz.out.trans (B6.out.mono Bz.out.size)
      clear Bz B6 hz0 pr
      generalize hW1 : w5.alloc (.cells (blk (hashOf [bs] key)) 27) = W1 at p0 p1 p2 hz hB0 ⊢
      generalize w5.heap.size = N2 at p2 ⊢
      generalize w3.heap.size = N1 at p1 ⊢
      clear hW1
      obtain ⟨zp, zn, zc, rfl⟩ := rowOf_slice hz
      refine wp_region_rel (l := [_, _, _, _, _, _, _, _, _, _, _, _, _, _]) (last := _) (fun w' => Hid (Below W1.heap.size W1 w'))
        [isv (.bool true), isv (.bool true), isv (.bool true), isv (.bool true), isv (.bool true), isv (.agg (blk key)), isv (.slice zp zn zc), rowsOf 0 [List.zipWith (· ^^^ ·) es bs], rowOf 0 (bytesOf (hashOf [List.zipWith (· ^^^ ·) es bs] key)), isv (.agg (blk (hashOf [es] key))), isv (.agg (blk (hashOf [bs] key))), isv (.agg (blk (hashOf [es] key ^^^ hashOf [bs] key))), isv (.bool true), isv (.bool true)]
        (by kernel_rfl) (by kernel_rfl) (Lib.hid ((Below.refl _ _).drew)) (fun _ _ hb hS => held0 hb hS) ?rstab ?rops ?rlast
      case rstab => exact stabs_cons (stab_isv _) (stabs_cons (stab_isv _) (stabs_cons (stab_isv _) (stabs_cons (stab_isv _) (stabs_cons (stab_isv _) (stabs_cons (stab_isv _) (stabs_cons (stab_isv _) (stabs_cons (stab_rowsOf _ _) (stabs_cons (stab_rowOf _ _) (stabs_cons (stab_isv _) (stabs_cons (stab_isv _) (stabs_cons (stab_isv _) (stabs_cons (stab_isv _) (stabs_cons (stab_isv _) stabs_nil)))))))))))))
      case rops =>
        refine ⟨?_, ?_, ?_, ?_, ?_, ?_, ?_, ?_, ?_, ?_, ?_, ?_, ?_, ?_, trivial⟩
        · intro u w' hS hd
          refine opV_val (v := .bool true) (by rfl) ?_ rfl
          simp only [frameOf, Act.put, List.setIfInBounds_toArray, List.set_cons_zero, List.set_cons_succ]
          go_simp
        · intro u w' hS hd
          have d0 : u 0 = .bool true := hd ⟨0, .data⟩ (by simp) rfl
          refine opV_val (v := .bool true) (by rfl) ?_ rfl
          simp only [frameOf, Act.put, List.setIfInBounds_toArray, List.set_cons_zero, List.set_cons_succ]
          go_simp
        · intro u w' hS hd
          have d1 : u 1 = .bool true := hd ⟨1, .guard⟩ (by simp) rfl
          refine opV_val (v := .bool true) (by simp [Region.wanted, yielded, frameOf, Act.put, d1]) ?_ rfl
          simp only [frameOf, Act.put, List.setIfInBounds_toArray, List.set_cons_zero, List.set_cons_succ]
          go_simp
        · intro u w' hS hd
          have d1 : u 1 = .bool true := hd ⟨1, .data⟩ (by simp) rfl
          have d2 : u 2 = .bool true := hd ⟨2, .data⟩ (by simp) rfl
          refine opV_val (v := .bool true) (by rfl) ?_ rfl
          simp only [frameOf, Act.put, List.setIfInBounds_toArray, List.set_cons_zero, List.set_cons_succ]
          go_simp
        · intro u w' hS hd
          have d3 : u 3 = .bool true := hd ⟨3, .data⟩ (by simp) rfl
          refine opV_val (v := .bool true) (by rfl) ?_ rfl
          simp only [frameOf, Act.put, List.setIfInBounds_toArray, List.set_cons_zero, List.set_cons_succ]
          go_simp
        · intro u w' hS hd
          have d4 : u 4 = .bool true := hd ⟨4, .guard⟩ (by simp) rfl
          have p0' := oa_below p0 hS.out (oa_lt p0)
          refine opV_val (v := .agg (blk key)) (by simp [Region.wanted, yielded, frameOf, Act.put, d4]) ?_ rfl
          simp only [frameOf, Act.put, List.setIfInBounds_toArray, List.set_cons_zero, List.set_cons_succ]
          go_simp
        · intro u w' hS hd
          have d4 : u 4 = .bool true := hd ⟨4, .guard⟩ (by simp) rfl
          refine opV_val (v := .slice zp zn zc) (by simp [Region.wanted, yielded, frameOf, Act.put, d4]) ?_ rfl
          simp only [frameOf, Act.put, List.setIfInBounds_toArray, List.set_cons_zero, List.set_cons_succ]
          go_simp
        · intro u w' hS hd
          have d6 : u 6 = .slice zp zn zc := hd ⟨6, .data⟩ (by simp) rfl
          have d4 : u 4 = .bool true := hd ⟨4, .guard⟩ (by simp) rfl
          refine opV_make (v := .slice (some ⟨w'.heap.size, 0, none⟩) 1 1) (w' := w'.alloc (.cells #[.slice zp zn zc] 35)) (by simp [Region.wanted, yielded, frameOf, Act.put, d4]) ?_ ((Below.refl _ _).alloc (Nat.le_refl _) _) (rows_new1 (stab_rowOf _ _ _ _ _ hS.out hz) rfl)
          simp only [frameOf, Act.put, List.setIfInBounds_toArray, List.set_cons_zero, List.set_cons_succ]
          go_simp
        · intro u w' hS hd
          have d5 : u 5 = .agg (blk key) := hd ⟨5, .data⟩ (by simp) rfl
          have d7 : (rowsOf 0 [List.zipWith (· ^^^ ·) es bs]) (u 7) w' := hd ⟨7, .data⟩ (by simp) rfl
          have d4 : u 4 = .bool true := hd ⟨4, .guard⟩ (by simp) rfl
          refine opV_call (f := 30) (args := #[.agg (blk key), u 7]) (by simp [Region.wanted, yielded, frameOf, Act.put, d4]) ?_ ((ihash_row key [List.zipWith (· ^^^ ·) es bs] (u 7) w' d7 (by simp) (by simp; omega)).mono fun e w2 ⟨v', he, hb, hr⟩ => ⟨v', he, hb, hr.mono (Nat.zero_le _)⟩)
          simp only [frameOf, Act.put, List.setIfInBounds_toArray, List.set_cons_zero, List.set_cons_succ]
          go_simp
        · intro u w' hS hd
          have d4 : u 4 = .bool true := hd ⟨4, .guard⟩ (by simp) rfl
          have p1' := oa_below p1 hS.out (oa_lt p1)
          refine opV_val (v := .agg (blk (hashOf [es] key))) (by simp [Region.wanted, yielded, frameOf, Act.put, d4]) ?_ rfl
          simp only [frameOf, Act.put, List.setIfInBounds_toArray, List.set_cons_zero, List.set_cons_succ]
          go_simp
        · intro u w' hS hd
          have d4 : u 4 = .bool true := hd ⟨4, .guard⟩ (by simp) rfl
          have p2' := oa_below p2 hS.out (oa_lt p2)
          refine opV_val (v := .agg (blk (hashOf [bs] key))) (by simp [Region.wanted, yielded, frameOf, Act.put, d4]) ?_ rfl
          simp only [frameOf, Act.put, List.setIfInBounds_toArray, List.set_cons_zero, List.set_cons_succ]
          go_simp
        · intro u w' hS hd
          have d9 : u 9 = .agg (blk (hashOf [es] key)) := hd ⟨9, .data⟩ (by simp) rfl
          have d10 : u 10 = .agg (blk (hashOf [bs] key)) := hd ⟨10, .data⟩ (by simp) rfl
          have d4 : u 4 = .bool true := hd ⟨4, .guard⟩ (by simp) rfl
          refine opV_callB (f := 27) (args := #[.agg (blk (hashOf [es] key)), .agg (blk (hashOf [bs] key))]) (by simp [Region.wanted, yielded, frameOf, Act.put, d4]) ?_ (lxor_any (hashOf [es] key) (hashOf [bs] key) w')
          simp only [frameOf, Act.put, List.setIfInBounds_toArray, List.set_cons_zero, List.set_cons_succ]
          go_simp
        · intro u w' hS hd
          have d8 : (rowOf 0 (bytesOf (hashOf [List.zipWith (· ^^^ ·) es bs] key))) (u 8) w' := hd ⟨8, .data⟩ (by simp) rfl
          have d11 : u 11 = .agg (blk (hashOf [es] key ^^^ hashOf [bs] key)) := hd ⟨11, .data⟩ (by simp) rfl
          have d4 : u 4 = .bool true := hd ⟨4, .guard⟩ (by simp) rfl
          rw [hash_sum es bs hl'.out key] at d8
          refine opV_callB (f := 33) (args := #[u 8, .agg (blk (hashOf [es] key ^^^ hashOf [bs] key))]) (by simp [Region.wanted, yielded, frameOf, Act.put, d4]) ?_ (is_any (hashOf [es] key ^^^ hashOf [bs] key) (u 8) w' d8)
          simp only [frameOf, Act.put, List.setIfInBounds_toArray, List.set_cons_zero, List.set_cons_succ]
          go_simp
        · intro u w' hS hd
          have d4 : u 4 = .bool true := hd ⟨4, .data⟩ (by simp) rfl
          have d12 : u 12 = .bool true := hd ⟨12, .data⟩ (by simp) rfl
          refine opV_val (v := .bool true) (by rfl) ?_ rfl
          simp only [frameOf, Act.put, List.setIfInBounds_toArray, List.set_cons_zero, List.set_cons_succ]
          go_simp
      case rlast =>
        intro u w1 hS hV
        have d13 : u 13 = .bool true := hV 13 (by decide)
        simp only [frameOf, Act.put, List.setIfInBounds_toArray, List.set_cons_zero, List.set_cons_succ]
        simp only [wpOp, List.length_cons, List.length_nil, Nat.zero_add, Nat.reduceAdd]
        go_simp
        refine .inl ?_
        go_wp2
        go_ret
        exact ⟨rfl, hB0.trans (hS.out.mono hB0.size)⟩

set_option maxHeartbeats 1000000 in
theorem sum_is (key : BitVec 128) (es bs : List (BitVec 8)) (v u : Value) (w : World) (h : rowOf 0 es v w) (h' : rowOf 0 bs u w) :
    Calls Try.prog 15 #[.agg (blk key), v, u] w fun e w' => e = .returned (.bool true) ∧ Below w.heap.size w w' := by
  obtain ⟨p, c, rfl⟩ : ∃ p c, v = .slice p es.length c := by
    obtain ⟨p, c, h, _⟩ := h
    exact ⟨p, c, h⟩
  obtain ⟨p', c', rfl⟩ : ∃ p c, u = .slice p bs.length c := by
    obtain ⟨p, c, h, _⟩ := h'
    exact ⟨p, c, h⟩
  have b0 : Below w.heap.size w (w.alloc (.cells (blk key) 27)) := (Below.refl _ w).alloc (Nat.le_refl _) _
  by_cases hlen : es.length ≤ 2147483647
  · have k1 : ¬ (2147483647 < (es.length : Int)) := by omega
    by_cases hlen' : bs.length ≤ 2147483647
    · have k1' : ¬ (2147483647 < (bs.length : Int)) := by omega
      by_cases hm : es.length = bs.length
      · by_cases hfew : es.length + bs.length ≤ 16384
        · exact sum_end key es bs hm hfew p p' c c' w h h'
        · have k2 : (es.length : Int) = bs.length := by omega
          have gf := few_any [es, bs] (.slice (some ⟨w.heap.size + 1, 0, none⟩) 2 2) _ (rows_new2 (stab_rowOf _ _ _ _ _ b0 h) (stab_rowOf _ _ _ _ _ b0 h') (by simp))
          rw [total_two, decide_eq_false hfew] at gf
          have b1 := Lib.hid (b0.trans ((Below.refl _ _).alloc b0.size (.cells #[.slice p es.length c, .slice p' bs.length c'] 35)))
          clear b0 h h' hm
          go_enter Try.func15, Try.ntmps15
          go_wp2_with (go_at_call 29; (with_reducible refine gf.mono ?_); rintro e w1 ⟨rfl, hb1⟩; have B1 := Lib.hid (b1.out.trans (hb1.mono b1.out.size)); clear hb1 gf)
          go_ret
          exact ⟨rfl, B1.out⟩
      · have k2 : ¬ ((es.length : Int) = bs.length) := by omega
        clear h h'
        go_enter Try.func15, Try.ntmps15
        go_wp2
        go_ret
        exact ⟨rfl, b0⟩
    · have k1' : 2147483647 < (bs.length : Int) := by omega
      clear h h'
      go_enter Try.func15, Try.ntmps15
      go_wp2
      go_ret
      exact ⟨rfl, b0⟩
  · have k1 : 2147483647 < (es.length : Int) := by omega
    clear h h'
    go_enter Try.func15, Try.ntmps15
    go_wp2
    go_ret
    exact ⟨rfl, b0⟩
end Go.Proofs.Ytdaebcaokoajjaa
