/- The law: the hash of nothing, and of zeros, is zero, and the key is the hash of the block of 1. -/
import Derived.Test.YtdaebcaokoajjaaHBlock
import Derived.Test.YtdaebcaokoajjaaOpen
namespace Go.Proofs.Ytdaebcaokoajjaa
open Go Go.RowKit Gf

theorem rowsOf_nil {w : World} : rowsOf 0 [] (.slice none 0 0) w := ⟨none, 0, rfl, by simp, by decide, .inl rfl⟩
theorem hash_none (key : BitVec 128) : hashOf [] key = 0#128 := rfl
theorem byte_z (i : Nat) (h : i < 16) : byte (ofBytes fun _ => 0#8) i = 0#8 := byte_of _ i h
theorem ofBytes_zero : ofBytes (fun _ => 0#8) = 0#128 := bytes_ext fun i hi => by rw [byte_z i hi, byte_zero]
theorem blkAt_zeros (n j : Nat) : blkAt (List.replicate n 0#8) j = 0#128 := by
  unfold blkAt
  rw [← ofBytes_zero]
  refine ofBytes_congr fun i _ => ?_
  rw [List.getD_eq_getElem?_getD, List.getElem?_replicate]
  split <;> rfl
theorem yk_zeros (S : List (BitVec 128)) (h : BitVec 128) (hS : ∀ x ∈ S, x = 0#128) : ∀ k, yk S h k = 0#128
  | 0 => rfl
  | k + 1 => by
    have e : S.getD k 0#128 = 0#128 := by
      rw [List.getD_eq_getElem?_getD]
      cases hk : S[k]? with
      | none => rfl
      | some x => exact hS x (List.mem_of_getElem? hk)
    show gmul (yk S h k ^^^ S.getD k 0#128) h = 0#128
    rw [yk_zeros S h hS k, e, BitVec.xor_zero, gmul_zero_left]
theorem hash_zeros (n : Nat) (key : BitVec 128) : hashOf [List.replicate n 0#8] key = 0#128 := by
  refine yk_zeros _ _ (fun x hx => ?_) _
  simp only [seqOf, List.flatMap_cons, List.flatMap_nil, List.append_nil, blksOf, List.mem_map] at hx
  obtain ⟨j, _, rfl⟩ := hx
  exact blkAt_zeros n j
theorem run_make0 (w : World) (n : Nat) (hn : n ≤ 281474976710656) :
    (Instr.makeSlice 35 (.int .i64 (n : Int)) (.int .i64 (n : Int))).run Try.prog w = .ok (.slice (some ⟨w.heap.size, 0, none⟩) n n) (w.alloc (.cells (madeCells (Value.int .u8 0).cells n) 5)) := by
  obtain ⟨i, hi, hs, hb, hz⟩ := info5
  have h := run_make (P := Try.prog) w 35 5 i (.int .u8 0) Try.underlying35 hi hz .i64 .i64 n n (by omega) (Int.le_refl _) (by rw [hb]; omega) (by omega)
  rw [hs] at h
  simpa using h
theorem rowOf_zeros {n0 b n : Nat} {w : World} (h : objAt w b = some (.cells (madeCells (Value.int .u8 0).cells n) 5 (0, 0))) (hb : n0 ≤ b) (hn : n ≤ 281474976710656) : rowOf n0 (List.replicate n 0#8) (.slice (some ⟨b, 0, none⟩) n n) w := by
  refine ⟨_, n, by rw [List.length_replicate], by rw [List.length_replicate]; exact Nat.le_refl _, by omega, .inr ⟨b, 0, rfl, hb, oa_lt h, fun i x hx => ?_⟩⟩
  rw [Nat.zero_add, objAt_cell h i]
  have hi : i < n := by have := (List.getElem?_eq_some_iff.1 hx).1; simpa using this
  have hx' : x = 0#8 := List.eq_of_mem_replicate (List.mem_of_getElem? hx)
  subst hx'
  have hc : (Value.int .u8 0).cells = #[.int .u8 0] := rfl
  unfold madeCells
  rw [hc]
  simp [hi, Nat.mod_one, n8]

set_option maxHeartbeats 4000000 in
theorem nothing_in (key : BitVec 128) (n : Nat) (hn : n ≤ 16384) (w : World) :
    Calls Try.prog 14 #[.agg (blk key), .int .i64 (n : Int)] w fun e w' => e = .returned (.bool true) ∧ Below w.heap.size w w' := by
  have q0 : objAt (w.alloc (.cells (blk key) 27)) w.heap.size = some (.cells (blk key) 27 (0, 0)) := objAt_alloc_at _ _ _ rfl
  have b0 : Below w.heap.size w (w.alloc (.cells (blk key) 27)) := (Below.refl _ w).alloc (Nat.le_refl _) _
  have hn1 : ¬ (n : Int) < 0 := by omega
  have hn2 : ¬ 16384 < (n : Int) := by omega
  go_enter Try.func14, Try.ntmps14
  go_wp2_with (go_at_call 26; (with_reducible refine (one_any _).mono ?_); rintro e w1 ⟨rfl, hb1⟩; have z1 := hb1.size; simp at z1; have p0 := oa_alloc (oa_below q0 hb1 (by simp)) (.cells (blk e0) 27); have p1 := objAt_alloc_at w1 (.cells (blk e0) 27) _ rfl; have hB := Lib.hid hb1; clear hb1)
  have b1 : Below w.heap.size w (w1.alloc (.cells (blk e0) 27)) := (b0.trans (hB.out.mono (by simp))).alloc (by omega) _
  clear b0 q0
  generalize w1.alloc (.cells (blk e0) 27) = w2 at p0 p1 b1 ⊢
  generalize w1.heap.size = N at p1 ⊢
  refine wp_region_rel (l := [_, _, _, _, _, _, _, _, _, _, _, _, _, _, _, _, _, _, _, _, _]) (last := _) (fun w' => objAt w' w.heap.size = some (.cells (blk key) 27 (0, 0)) ∧ objAt w' N = some (.cells (blk e0) 27 (0, 0)) ∧ Hid (Below w.heap.size w w'))
    [isv (.agg (blk key)), rowOf 0 (bytesOf (hashOf [] key)), isv (.agg (blk 0#128)), isv (.bool true), isv (.bool true), isv (.agg (blk key)), isv (.int .i64 (n : Int)), rowOf 0 (List.replicate n 0#8), rowsOf 0 [(List.replicate n 0#8)], rowOf 0 (bytesOf (hashOf [(List.replicate n 0#8)] key)), isv (.agg (blk 0#128)), isv (.bool true), isv (.bool true), isv (.bool true), isv (.agg (blk key)), isv (.slice (some ⟨N, 0, none⟩) 16 16), rowsOf 0 [bytesOf e0], rowOf 0 (bytesOf (hashOf [bytesOf e0] key)), isv (.agg (blk key)), isv (.bool true), isv (.bool true)]
    (by kernel_rfl) (by kernel_rfl) ⟨oa_drew p0, oa_drew p1, start0 b1⟩ (fun _ _ hb hS => held2 hb hS) ?rstab ?rops ?rlast
  case rstab => exact stabs_cons (stab_isv _) (stabs_cons (stab_rowOf _ _) (stabs_cons (stab_isv _) (stabs_cons (stab_isv _) (stabs_cons (stab_isv _) (stabs_cons (stab_isv _) (stabs_cons (stab_isv _) (stabs_cons (stab_rowOf _ _) (stabs_cons (stab_rowsOf _ _) (stabs_cons (stab_rowOf _ _) (stabs_cons (stab_isv _) (stabs_cons (stab_isv _) (stabs_cons (stab_isv _) (stabs_cons (stab_isv _) (stabs_cons (stab_isv _) (stabs_cons (stab_isv _) (stabs_cons (stab_rowsOf _ _) (stabs_cons (stab_rowOf _ _) (stabs_cons (stab_isv _) (stabs_cons (stab_isv _) (stabs_cons (stab_isv _) stabs_nil))))))))))))))))))))
  case rops =>
    refine ⟨?_, ?_, ?_, ?_, ?_, ?_, ?_, ?_, ?_, ?_, ?_, ?_, ?_, ?_, ?_, ?_, ?_, ?_, ?_, ?_, ?_, trivial⟩
    · intro u w' hS hd
      refine opV_val (v := .agg (blk key)) (by rfl) ?_ rfl
      simp only [frameOf, Act.put, List.setIfInBounds_toArray, List.set_cons_zero, List.set_cons_succ]
      go_simp
    · intro u w' hS hd
      have d0 : u 0 = .agg (blk key) := hd ⟨0, .data⟩ (by simp) rfl
      refine opV_call (f := 30) (args := #[.agg (blk key), .slice none 0 0]) (by rfl) ?_ ((ihash_row key [] (.slice none 0 0) w' rowsOf_nil (by simp) (by simp)).mono fun e w2 ⟨v', he, hb, hr⟩ => ⟨v', he, hb, hr.mono (Nat.zero_le _)⟩)
      simp only [frameOf, Act.put, List.setIfInBounds_toArray, List.set_cons_zero, List.set_cons_succ]
      go_simp
    · intro u w' hS hd
      refine opV_val (v := .agg (blk 0#128)) (by rfl) ?_ rfl
      simp only [frameOf, Act.put, List.setIfInBounds_toArray, List.set_cons_zero, List.set_cons_succ]
      go_simp
    · intro u w' hS hd
      have d1 : (rowOf 0 (bytesOf (hashOf [] key))) (u 1) w' := hd ⟨1, .data⟩ (by simp) rfl
      have d2 : u 2 = .agg (blk 0#128) := hd ⟨2, .data⟩ (by simp) rfl
      rw [hash_none] at d1
      refine opV_callB (f := 33) (args := #[u 1, .agg (blk 0#128)]) (by rfl) ?_ (is_any 0#128 (u 1) w' d1)
      simp only [frameOf, Act.put, List.setIfInBounds_toArray, List.set_cons_zero, List.set_cons_succ]
      go_simp
    · intro u w' hS hd
      have d3 : u 3 = .bool true := hd ⟨3, .data⟩ (by simp) rfl
      refine opV_val (v := .bool true) (by rfl) ?_ rfl
      simp only [frameOf, Act.put, List.setIfInBounds_toArray, List.set_cons_zero, List.set_cons_succ]
      go_simp
    · intro u w' hS hd
      have d4 : u 4 = .bool true := hd ⟨4, .guard⟩ (by simp) rfl
      refine opV_val (v := .agg (blk key)) (by simp [Region.wanted, yielded, frameOf, Act.put, d4]) ?_ rfl
      simp only [frameOf, Act.put, List.setIfInBounds_toArray, List.set_cons_zero, List.set_cons_succ]
      go_simp
    · intro u w' hS hd
      have d4 : u 4 = .bool true := hd ⟨4, .guard⟩ (by simp) rfl
      refine opV_val (v := .int .i64 (n : Int)) (by simp [Region.wanted, yielded, frameOf, Act.put, d4]) ?_ rfl
      simp only [frameOf, Act.put, List.setIfInBounds_toArray, List.set_cons_zero, List.set_cons_succ]
      go_simp
    · intro u w' hS hd
      have d6 : u 6 = .int .i64 (n : Int) := hd ⟨6, .data⟩ (by simp) rfl
      have d4 : u 4 = .bool true := hd ⟨4, .guard⟩ (by simp) rfl
      have hmk := run_make0 w' n (by omega)
      refine opV_make (v := .slice (some ⟨w'.heap.size, 0, none⟩) n n) (w' := w'.alloc (.cells (madeCells (Value.int .u8 0).cells n) 5)) (by simp [Region.wanted, yielded, frameOf, Act.put, d4]) ?_ ((Below.refl _ _).alloc (Nat.le_refl _) _) (rowOf_zeros (objAt_alloc_at _ _ _ rfl) (Nat.zero_le _) (by omega))
      simp only [frameOf, Act.put, List.setIfInBounds_toArray, List.set_cons_zero, List.set_cons_succ]
      go_simp
    · intro u w' hS hd
      have d7 : (rowOf 0 (List.replicate n 0#8)) (u 7) w' := hd ⟨7, .data⟩ (by simp) rfl
      have d4 : u 4 = .bool true := hd ⟨4, .guard⟩ (by simp) rfl
      obtain ⟨p7, n7, c7, e7⟩ := rowOf_slice d7
      rw [e7] at d7
      refine opV_make (v := .slice (some ⟨w'.heap.size, 0, none⟩) 1 1) (w' := w'.alloc (.cells #[.slice p7 n7 c7] 35)) (by simp [Region.wanted, yielded, frameOf, Act.put, d4]) ?_ ((Below.refl _ _).alloc (Nat.le_refl _) _) (rowsOf_one (objAt_alloc_at _ _ _ rfl) (Nat.zero_le _) (stab_rowOf _ _ _ _ _ ((Below.refl _ _).alloc (Nat.le_refl _) _) d7))
      simp only [frameOf, Act.put, List.setIfInBounds_toArray, List.set_cons_zero, List.set_cons_succ]
      go_simp
    · intro u w' hS hd
      have d5 : u 5 = .agg (blk key) := hd ⟨5, .data⟩ (by simp) rfl
      have d8 : (rowsOf 0 [(List.replicate n 0#8)]) (u 8) w' := hd ⟨8, .data⟩ (by simp) rfl
      have d4 : u 4 = .bool true := hd ⟨4, .guard⟩ (by simp) rfl
      refine opV_call (f := 30) (args := #[.agg (blk key), u 8]) (by simp [Region.wanted, yielded, frameOf, Act.put, d4]) ?_ ((ihash_row key [(List.replicate n 0#8)] (u 8) w' d8 (by simp) (by simp; omega)).mono fun e w2 ⟨v', he, hb, hr⟩ => ⟨v', he, hb, hr.mono (Nat.zero_le _)⟩)
      simp only [frameOf, Act.put, List.setIfInBounds_toArray, List.set_cons_zero, List.set_cons_succ]
      go_simp
    · intro u w' hS hd
      have d4 : u 4 = .bool true := hd ⟨4, .guard⟩ (by simp) rfl
      refine opV_val (v := .agg (blk 0#128)) (by simp [Region.wanted, yielded, frameOf, Act.put, d4]) ?_ rfl
      simp only [frameOf, Act.put, List.setIfInBounds_toArray, List.set_cons_zero, List.set_cons_succ]
      go_simp
    · intro u w' hS hd
      have d9 : (rowOf 0 (bytesOf (hashOf [(List.replicate n 0#8)] key))) (u 9) w' := hd ⟨9, .data⟩ (by simp) rfl
      have d10 : u 10 = .agg (blk 0#128) := hd ⟨10, .data⟩ (by simp) rfl
      have d4 : u 4 = .bool true := hd ⟨4, .guard⟩ (by simp) rfl
      rw [hash_zeros] at d9
      refine opV_callB (f := 33) (args := #[u 9, .agg (blk 0#128)]) (by simp [Region.wanted, yielded, frameOf, Act.put, d4]) ?_ (is_any 0#128 (u 9) w' d9)
      simp only [frameOf, Act.put, List.setIfInBounds_toArray, List.set_cons_zero, List.set_cons_succ]
      go_simp
    · intro u w' hS hd
      have d4 : u 4 = .bool true := hd ⟨4, .data⟩ (by simp) rfl
      have d11 : u 11 = .bool true := hd ⟨11, .data⟩ (by simp) rfl
      refine opV_val (v := .bool true) (by rfl) ?_ rfl
      simp only [frameOf, Act.put, List.setIfInBounds_toArray, List.set_cons_zero, List.set_cons_succ]
      go_simp
    · intro u w' hS hd
      have d12 : u 12 = .bool true := hd ⟨12, .data⟩ (by simp) rfl
      refine opV_val (v := .bool true) (by rfl) ?_ rfl
      simp only [frameOf, Act.put, List.setIfInBounds_toArray, List.set_cons_zero, List.set_cons_succ]
      go_simp
    · intro u w' hS hd
      have d13 : u 13 = .bool true := hd ⟨13, .guard⟩ (by simp) rfl
      refine opV_val (v := .agg (blk key)) (by simp [Region.wanted, yielded, frameOf, Act.put, d13]) ?_ rfl
      simp only [frameOf, Act.put, List.setIfInBounds_toArray, List.set_cons_zero, List.set_cons_succ]
      go_simp
    · intro u w' hS hd
      have d13 : u 13 = .bool true := hd ⟨13, .guard⟩ (by simp) rfl
      refine opV_val (v := .slice (some ⟨N, 0, none⟩) 16 16) (by simp [Region.wanted, yielded, frameOf, Act.put, d13]) ?_ rfl
      simp only [frameOf, Act.put, List.setIfInBounds_toArray, List.set_cons_zero, List.set_cons_succ]
      go_simp
    · intro u w' hS hd
      have d15 : u 15 = .slice (some ⟨N, 0, none⟩) 16 16 := hd ⟨15, .data⟩ (by simp) rfl
      have d13 : u 13 = .bool true := hd ⟨13, .guard⟩ (by simp) rfl
      refine opV_make (v := .slice (some ⟨w'.heap.size, 0, none⟩) 1 1) (w' := w'.alloc (.cells #[.slice (some ⟨N, 0, none⟩) 16 16] 35)) (by simp [Region.wanted, yielded, frameOf, Act.put, d13]) ?_ ((Below.refl _ _).alloc (Nat.le_refl _) _) (rowsOf_one (objAt_alloc_at _ _ _ rfl) (Nat.zero_le _) (rowOf_blk (oa_alloc hS.2.1 _) (Nat.zero_le _)))
      simp only [frameOf, Act.put, List.setIfInBounds_toArray, List.set_cons_zero, List.set_cons_succ]
      go_simp
    · intro u w' hS hd
      have d14 : u 14 = .agg (blk key) := hd ⟨14, .data⟩ (by simp) rfl
      have d16 : (rowsOf 0 [bytesOf e0]) (u 16) w' := hd ⟨16, .data⟩ (by simp) rfl
      have d13 : u 13 = .bool true := hd ⟨13, .guard⟩ (by simp) rfl
      refine opV_call (f := 30) (args := #[.agg (blk key), u 16]) (by simp [Region.wanted, yielded, frameOf, Act.put, d13]) ?_ ((ihash_row key [bytesOf e0] (u 16) w' d16 (by simp) (by simp [bytesOf])).mono fun e w2 ⟨v', he, hb, hr⟩ => ⟨v', he, hb, hr.mono (Nat.zero_le _)⟩)
      simp only [frameOf, Act.put, List.setIfInBounds_toArray, List.set_cons_zero, List.set_cons_succ]
      go_simp
    · intro u w' hS hd
      have d13 : u 13 = .bool true := hd ⟨13, .guard⟩ (by simp) rfl
      refine opV_val (v := .agg (blk key)) (by simp [Region.wanted, yielded, frameOf, Act.put, d13]) ?_ rfl
      simp only [frameOf, Act.put, List.setIfInBounds_toArray, List.set_cons_zero, List.set_cons_succ]
      go_simp
    · intro u w' hS hd
      have d17 : (rowOf 0 (bytesOf (hashOf [bytesOf e0] key))) (u 17) w' := hd ⟨17, .data⟩ (by simp) rfl
      have d18 : u 18 = .agg (blk key) := hd ⟨18, .data⟩ (by simp) rfl
      have d13 : u 13 = .bool true := hd ⟨13, .guard⟩ (by simp) rfl
      rw [hashOf_one, gmul_one_left] at d17
      refine opV_callB (f := 33) (args := #[u 17, .agg (blk key)]) (by simp [Region.wanted, yielded, frameOf, Act.put, d13]) ?_ (is_any key (u 17) w' d17)
      simp only [frameOf, Act.put, List.setIfInBounds_toArray, List.set_cons_zero, List.set_cons_succ]
      go_simp
    · intro u w' hS hd
      have d13 : u 13 = .bool true := hd ⟨13, .data⟩ (by simp) rfl
      have d19 : u 19 = .bool true := hd ⟨19, .data⟩ (by simp) rfl
      refine opV_val (v := .bool true) (by rfl) ?_ rfl
      simp only [frameOf, Act.put, List.setIfInBounds_toArray, List.set_cons_zero, List.set_cons_succ]
      go_simp
  case rlast =>
    intro u w1 hS hV
    have d20 : u 20 = .bool true := hV 20 (by decide)
    simp only [frameOf, Act.put, List.setIfInBounds_toArray, List.set_cons_zero, List.set_cons_succ]
    simp only [wpOp, List.length_cons, List.length_nil, Nat.zero_add, Nat.reduceAdd]
    go_simp
    refine .inl ?_
    go_wp2
    go_ret
    exact ⟨rfl, hS.2.2.out⟩

set_option maxHeartbeats 1000000 in
theorem nothing_is (key : BitVec 128) (a : Int) (w : World) :
    Calls Try.prog 14 #[.agg (blk key), .int .i64 a] w fun e w' => e = .returned (.bool true) ∧ Below w.heap.size w w' := by
  have b0 : Below w.heap.size w (w.alloc (.cells (blk key) 27)) := (Below.refl _ w).alloc (Nat.le_refl _) _
  by_cases h0 : a < 0
  · go_enter Try.func14, Try.ntmps14
    go_wp2
    go_ret
    exact ⟨rfl, b0⟩
  · by_cases h1 : 16384 < a
    · go_enter Try.func14, Try.ntmps14
      go_wp2
      go_ret
      exact ⟨rfl, b0⟩
    · obtain ⟨n, rfl⟩ : ∃ n : Nat, a = n := ⟨a.toNat, by omega⟩
      exact nothing_in key n (by omega) w
end Go.Proofs.Ytdaebcaokoajjaa
