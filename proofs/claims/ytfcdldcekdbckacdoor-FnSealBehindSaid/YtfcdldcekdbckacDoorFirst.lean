/- The first counter of a nonce, as the code makes it. -/
import Derived.Test.YtfcdldcekdbckacDoorPut
namespace Go.Proofs.YtfcdldcekdbckacDoor
open Go Go.RowKit Gf

theorem u64len (n : Nat) (h : n ≤ 2147483647) : IntKind.u64.wrap (n : Int) = (n : Int) := by rw [IntKind.wrap_u64]; omega
theorem u64bits (n : Nat) : IntKind.u64.wrap ((n : Int) * 8) = n64 (bits8 n) := by
  rw [IntKind.wrap_u64]; unfold bits8 n64; rw [BitVec.toNat_ofNat]; omega
theorem u64bits' (n : Nat) : IntKind.u64.wrap (8 * (n : Int)) = n64 (bits8 n) := by rw [Int.mul_comm]; exact u64bits n

/-- Twelve bytes and four zeros; and a 1 behind them. -/
def copyB (bs : List (BitVec 8)) : BitVec 128 := ofBytes fun i => if i < 12 then bs.getD i 0#8 else 0#8
def firstB (bs : List (BitVec 8)) : BitVec 128 := ofBytes fun i => if i < 12 then bs.getD i 0#8 else if i = 15 then 1#8 else 0#8
theorem firstOf_12 (h : BitVec 128) (bs : List (BitVec 8)) (hl : bs.length = 12) : firstOf h bs = firstB bs := by unfold firstOf; rw [if_pos hl]; rfl
theorem firstOf_no (h : BitVec 128) (bs : List (BitVec 8)) (hl : bs.length ≠ 12) : firstOf h bs = hashOf [bs, bytesOf (put8 0#128 8 (bits8 bs.length) 8)] h := by unfold firstOf; rw [if_neg hl]
theorem set15 (bs : List (BitVec 8)) : (blk (copyB bs)).setIfInBounds 15 (.int .u8 1) = blk (firstB bs) := by
  have h := blk_set (copyB bs) 15 1#8 (by decide)
  have e : setB (copyB bs) 15 1#8 = firstB bs := bytes_ext fun i hi => by
    rw [byte_setB _ _ _ _ hi]
    unfold copyB firstB
    rw [byte_of _ i hi, byte_of _ i hi]
    by_cases h2 : i = 15
    · subst h2; rfl
    · rw [if_neg h2]; by_cases h3 : i < 12
      · rw [if_pos h3, if_pos h3]
      · rw [if_neg h3, if_neg h3, if_neg h2]
  rw [e] at h
  exact h
theorem copy_cells (bs : List (BitVec 8)) (hl : bs.length = 12) : ((blk 0#128).toList.take 0 ++ bcells bs ++ (blk 0#128).toList.drop (0 + (bcells bs).length)).toArray = blk (copyB bs) := by
  have hc : (bcells bs).length = 12 := by simp [bcells, hl]
  apply Array.ext_getElem?
  intro i
  rw [List.take_zero, List.nil_append, hc, List.getElem?_toArray]
  by_cases hi : i < 16
  · rw [blk_get _ i hi]
    unfold copyB
    rw [byte_of _ i hi]
    by_cases h2 : i < 12
    · rw [if_pos h2, List.getElem?_append_left (by omega), bcells_get, List.getElem?_eq_getElem (by omega : i < bs.length), List.getD_eq_getElem?_getD, List.getElem?_eq_getElem (by omega : i < bs.length)]; rfl
    · have := blk_get 0#128 i hi
      rw [byte_zero] at this
      rw [if_neg h2, List.getElem?_append_right (by omega), hc, List.getElem?_drop, show 0 + 12 + (i - 12) = i by omega, Array.getElem?_toList]
      exact this
  · rw [Array.getElem?_eq_none (by rw [blk_size]; omega), List.getElem?_eq_none (by rw [List.length_append, List.length_drop, hc, Array.length_toList, blk_size]; omega)]

theorem run_copy12 (W : World) (g : Nat) (t : TypeId) (bs : List (BitVec 8)) (v : Value) (ty : TypeId) (hl : bs.length = 12) (hg : objAt W g = some (.cells (blk 0#128) t (0, 0))) (h : rowOf 0 bs v W) :
    (Builtin.copy_ #[22, 22] ty #[.slice (some ⟨g, 0, none⟩) 16 16, v]).run Tryd.prog W = .ok (goInt ((12 : Nat) : Int)) (W.setRow g (blk (copyB bs))) := by
  obtain ⟨p, c, rfl, h2, h3, h4⟩ := h
  have hne : bs ≠ [] := by intro e; rw [e] at hl; cases hl
  obtain ⟨b, o, rfl, _, hb, hcell⟩ := h4.resolve_left hne
  have hcs : (bcells bs).length = 12 := by simp [bcells, hl]
  have h := run_copy_row (P := Tryd.prog) W 22 22 ty 5 g 0 16 16 ⟨b, o, none⟩ bs.length c (blk 0#128) t (bcells bs) Tryd.underlying22 (by kernel_rfl) hg (by rw [hcs, hl]; rfl)
    (fun i u hu => by
      rw [bcells_get] at hu
      obtain ⟨y, hy, rfl⟩ := Option.map_eq_some_iff.1 hu
      rw [Addr.add_mid]
      exact hcell i y hy)
    (by rw [hcs, blk_size]; omega) (fun u hu => by
      simp only [bcells, List.mem_map] at hu
      obtain ⟨_, _, rfl⟩ := hu; rfl)
  rw [h, copy_cells bs hl, hcs]

theorem RowAt.rowOf {Y : Nat} {bs : List (BitVec 8)} {v : Value} {w : World} (h : RowAt Y w v bs) : rowOf 0 bs v w := by
  obtain ⟨p, c, h1, h2, h3, h4⟩ := h
  refine ⟨p, c, h1, h2, h3, h4.imp id ?_⟩
  rintro ⟨b, o, h5, h6, h7, h8⟩
  exact ⟨b, o, h5, Nat.zero_le _, h7, h8⟩
theorem RowAt.slice {Y : Nat} {bs : List (BitVec 8)} {v : Value} {w : World} (h : RowAt Y w v bs) : ∃ p c, v = .slice p bs.length c := by
  obtain ⟨p, c, h, _⟩ := h
  exact ⟨p, c, h⟩
/-- Lists of rows that don't lie in the block Y, in a block just made. -/
theorem in_new2 {Y : Nat} {es bs : List (BitVec 8)} {v u : Value} {w : World} (h : RowAt Y w v es) (h' : RowAt Y w u bs) (hY : Y < w.heap.size) {N : Nat} (hN : N = w.heap.size) : InAt Y (w.alloc (.cells #[v, u] 22)) (.slice (some ⟨N, 0, none⟩) 2 2) [es, bs] := by
  subst hN
  have hk : Keeps Y w (w.alloc (.cells #[v, u] 22)) := (Keeps.refl Y w).alloc hY _
  have hn : objAt (w.alloc (.cells #[v, u] 22)) w.heap.size = some (.cells #[v, u] 22 (0, 0)) := objAt_alloc_at _ _ _ rfl
  refine ⟨_, 2, rfl, Nat.le_refl _, by decide, .inr ⟨w.heap.size, 0, rfl, by omega, by simp, fun i x hi => ?_⟩⟩
  match i, hi with
  | 0, hi =>
    obtain rfl : es = x := by simpa using hi
    exact ⟨v, (objAt_cell hn 0).trans rfl, h.kept hk⟩
  | 1, hi =>
    obtain rfl : bs = x := by simpa using hi
    exact ⟨u, (objAt_cell hn 1).trans rfl, h'.kept hk⟩
  | i + 2, hi => simp at hi
theorem in_new3 {Y : Nat} {es bs cs : List (BitVec 8)} {v u t : Value} {w : World} (h : RowAt Y w v es) (h' : RowAt Y w u bs) (h'' : RowAt Y w t cs) (hY : Y < w.heap.size) {N : Nat} (hN : N = w.heap.size) : InAt Y (w.alloc (.cells #[v, u, t] 22)) (.slice (some ⟨N, 0, none⟩) 3 3) [es, bs, cs] := by
  subst hN
  have hk : Keeps Y w (w.alloc (.cells #[v, u, t] 22)) := (Keeps.refl Y w).alloc hY _
  have hn : objAt (w.alloc (.cells #[v, u, t] 22)) w.heap.size = some (.cells #[v, u, t] 22 (0, 0)) := objAt_alloc_at _ _ _ rfl
  refine ⟨_, 3, rfl, Nat.le_refl _, by decide, .inr ⟨w.heap.size, 0, rfl, by omega, by simp, fun i x hi => ?_⟩⟩
  match i, hi with
  | 0, hi =>
    obtain rfl : es = x := by simpa using hi
    exact ⟨v, (objAt_cell hn 0).trans rfl, h.kept hk⟩
  | 1, hi =>
    obtain rfl : bs = x := by simpa using hi
    exact ⟨u, (objAt_cell hn 1).trans rfl, h'.kept hk⟩
  | 2, hi =>
    obtain rfl : cs = x := by simpa using hi
    exact ⟨t, (objAt_cell hn 2).trans rfl, h''.kept hk⟩
  | i + 3, hi => simp at hi
/-- A row that was there, seen from a block just made. -/
theorem rowAt_new {bs : List (BitVec 8)} {v : Value} {w : World} (h : rowOf 0 bs v w) (o : Obj) {Y : Nat} (hY : Y = w.heap.size) : RowAt Y (w.alloc o) v bs := by
  subst hY
  obtain ⟨p, c, h1, h2, h3, h4⟩ := h
  refine ⟨p, c, h1, h2, h3, h4.imp id ?_⟩
  rintro ⟨b, k, h5, _, h7, h8⟩
  exact ⟨b, k, h5, by omega, by simp; omega, fun i x hx => (cell_same (((Below.refl w.heap.size w).alloc (Nat.le_refl _) o).block b h7) _).trans (h8 i x hx)⟩
theorem made16 : (bcells (List.replicate 16 0#8)).toArray = blk 0#128 := by rw [← zero_blk]; kernel_rfl
theorem run_make16 (w : World) : (Instr.makeSlice 22 (.int .i64 16) (.int .i64 16)).run Tryd.prog w = .ok (.slice (some ⟨w.heap.size, 0, none⟩) 16 16) (w.alloc (.cells (blk 0#128) 5)) := by
  have h := run_makeB w 16 16 (by decide) (Nat.le_refl _)
  rw [made16] at h
  exact h

set_option maxRecDepth 100000 in
set_option maxHeartbeats 1000000 in
theorem derive12 (Hb Cb : Nat) (h : BitVec 128) (tC : TypeId) (bs : List (BitVec 8)) (v : Value) (w : World) (hl : bs.length = 12) (hC : objAt w Cb = some (.cells (blk 0#128) tC (0, 0))) (hr : rowOf 0 bs v w) :
    Calls Tryd.prog 29 #[.pointer (some ⟨Hb, 0, none⟩), .pointer (some ⟨Cb, 0, none⟩), v] w fun e w' => e = .returned (.tuple #[]) ∧ objAt w' Cb = some (.cells (blk (firstOf h bs)) tC (0, 0)) ∧ Keeps Cb w w' := by
  have hcp := run_copy12 w Cb tC bs v 3 hl hC hr
  obtain ⟨p, c, rfl, _, _, _⟩ := hr
  rw [hl] at hcp ⊢
  have g1 := objAt_setRow_same hC (blk (copyB bs))
  have c15 := (objAt_cell g1 15).trans (blk_get _ _ (by decide))
  have f15 := objAt_free g1 15
  have g2 := objAt_set g1 15 (.int .u8 1)
  rw [set15, ← firstOf_12 h bs hl] at g2
  have hk := (((Keeps.refl Cb w).row (blk (copyB bs))).set 15 (.int .u8 1))
  clear g1 hl
  go_enter Tryd.func29, Tryd.ntmps29
  go_wp2
  refine bodyPost_end (v := .tuple #[]) (by simp [results, Tryd.results29, go_sem]) rfl ⟨rfl, g2, hk⟩

set_option maxRecDepth 100000 in
set_option maxHeartbeats 1000000 in
theorem deriveNo (Hb Cb : Nat) (h : BitVec 128) (tH tC : TypeId) (bs : List (BitVec 8)) (v : Value) (w : World) (hl : bs.length ≠ 12) (hlen : bs.length ≤ 2147483647) (hH : objAt w Hb = some (.cells (blk h) tH (0, 0))) (hC : objAt w Cb = some (.cells (blk 0#128) tC (0, 0))) (hne : Hb ≠ Cb) (hr : RowAt Cb w v bs) :
    Calls Tryd.prog 29 #[.pointer (some ⟨Hb, 0, none⟩), .pointer (some ⟨Cb, 0, none⟩), v] w fun e w' => e = .returned (.tuple #[]) ∧ objAt w' Cb = some (.cells (blk (firstOf h bs)) tC (0, 0)) ∧ Keeps Cb w w' := by
  have hCl := oa_lt hC
  have hHl := oa_lt hH
  have hmk := run_make16 w
  obtain ⟨p, c, rfl⟩ := hr.slice
  have hl' : ¬ ((bs.length : Int) = 12) := by omega
  have e0 := u64len bs.length hlen
  have e1 := u64bits bs.length
  have g60 := put64_any w.heap.size 8 8 8 0#128 (bits8 bs.length) 5 (w.alloc (.cells (blk 0#128) 5)) (by decide) (by decide) (by decide) (objAt_alloc_at _ _ _ rfl)
  have hk0 : Keeps Cb w (w.alloc (.cells (blk 0#128) 5)) := (Keeps.refl Cb w).alloc hCl _
  have hfin := firstOf_no h bs hl
  have hR := Lib.hid hr
  clear hr hl
  go_enter Tryd.func29, Tryd.ntmps29
  go_wp2_with (first
    | (go_at_call 35; (with_reducible refine g60.mono ?_); rintro e w1 ⟨rfl, hN1, hk1⟩
       have K1 := hk0.below hCl (Nat.le_refl _) hk1.bel
       have hR1 := hR.out.kept K1
       have hL1 : RowAt Cb w1 (.slice (some ⟨w.heap.size, 0, none⟩) 16 16) (bytesOf (put8 0#128 8 (bits8 bs.length) 8)) := rowAt_blk 16 hN1 (by omega) (by decide) (by decide)
       have K2 : Keeps Cb w (w1.alloc (.cells #[.slice p bs.length c, .slice (some ⟨w.heap.size, 0, none⟩) 16 16] 22)) := K1.alloc hCl _
       have g54 : Calls Tryd.prog 36 #[.pointer (some ⟨Cb, 0, none⟩), .pointer (some ⟨Hb, 0, none⟩), .slice (some ⟨w1.heap.size, 0, none⟩) 2 2] (w1.alloc (.cells #[.slice p bs.length c, .slice (some ⟨w.heap.size, 0, none⟩) 16 16] 22)) (fun e W' => e = .returned (.tuple #[]) ∧ objAt W' Cb = some (.cells (blk (hashOf [bs, bytesOf (put8 0#128 8 (bits8 bs.length) 8)] h)) tC (0, 0)) ∧ Keeps Cb (w1.alloc (.cells #[.slice p bs.length c, .slice (some ⟨w.heap.size, 0, none⟩) 16 16] 22)) W') := by
         exact ghash_any Cb Hb 0#128 h tC tH [bs, bytesOf (put8 0#128 8 (bits8 bs.length) 8)] (some ⟨w1.heap.size, 0, none⟩) 2 _ (oa_alloc (hk1.at_ (oa_alloc hC _) (by omega)) _) (oa_alloc (hk1.at_ (oa_alloc hH _) (by omega)) _) hne (in_new2 hR1 hL1 (by have := K1.size; omega) rfl)
       have K2' := Lib.hid K2
       clear hk1 K1 hR1 hL1 K2 g60 hk0 hN1)
    | (go_at_call 36; (with_reducible refine g54.mono ?_); rintro e w2 ⟨rfl, hC2, hk2⟩; have K3 := Lib.hid (K2'.out.trans hk2); clear hk2 g54))
  refine bodyPost_end (v := .tuple #[]) (by simp [results, Tryd.results29, go_sem]) rfl ⟨rfl, ?_, K3.out⟩
  rw [hfin]; exact hC2

theorem deriveC_any (Hb Cb : Nat) (h : BitVec 128) (tH tC : TypeId) (bs : List (BitVec 8)) (v : Value) (w : World) (hlen : bs.length ≤ 2147483647) (hH : objAt w Hb = some (.cells (blk h) tH (0, 0))) (hC : objAt w Cb = some (.cells (blk 0#128) tC (0, 0))) (hne : Hb ≠ Cb) (hr : RowAt Cb w v bs) :
    Calls Tryd.prog 29 #[.pointer (some ⟨Hb, 0, none⟩), .pointer (some ⟨Cb, 0, none⟩), v] w fun e w' => e = .returned (.tuple #[]) ∧ objAt w' Cb = some (.cells (blk (firstOf h bs)) tC (0, 0)) ∧ Keeps Cb w w' := by
  by_cases hl : bs.length = 12
  · exact derive12 Hb Cb h tC bs v w hl hC hr.rowOf
  · exact deriveNo Hb Cb h tH tC bs v w hl hlen hH hC hne hr
end Go.Proofs.YtfcdldcekdbckacDoor
