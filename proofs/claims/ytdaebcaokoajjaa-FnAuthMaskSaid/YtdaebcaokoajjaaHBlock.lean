/- The law: the hash of one block is its product with the key. -/
import Derived.Test.YtdaebcaokoajjaaIs
import Derived.Test.YtdaebcaokoajjaaOpen
namespace Go.Proofs.Ytdaebcaokoajjaa
open Go Go.RowKit Gf

theorem hashOf_one (x h : BitVec 128) : hashOf [bytesOf x] h = gmul x h := by
  unfold hashOf
  rw [seq_one, List.length_singleton, yk_one]
theorem ihash_row (key : BitVec 128) (inp : List (List (BitVec 8))) (v : Value) (w : World) (hin : rowsOf 0 inp v w) (hn : inp.length ≤ 2147483647) (hbs : ∀ bs ∈ inp, bs.length ≤ 2147483647) :
    Calls Try.prog 30 #[.agg (blk key), v] w fun e w' => ∃ v', e = .returned v' ∧ Below w.heap.size w w' ∧ rowOf w.heap.size (bytesOf (hashOf inp key)) v' w' :=
  (ihash_any key inp v w hin hn hbs).mono fun _ _ ⟨_, he, hN, ho, hb⟩ => ⟨_, he, hb, rowOf_blk ho hN⟩
/-- A slice of one row. -/
theorem rowsOf_one {n0 b : Nat} {bs : List (BitVec 8)} {rv : Value} {w : World} (h : objAt w b = some (.cells #[rv] 35 (0, 0))) (hn : n0 ≤ b) (hr : rowOf n0 bs rv w) : rowsOf n0 [bs] (.slice (some ⟨b, 0, none⟩) 1 1) w := by
  refine ⟨_, 1, rfl, Nat.le_refl _, by decide, .inr ⟨b, 0, rfl, hn, oa_lt h, fun i bs' hi => ?_⟩⟩
  match i, hi with
  | 0, hi =>
    obtain rfl : bs = bs' := by simpa using hi
    exact ⟨rv, (objAt_cell h 0).trans rfl, hr⟩
  | i + 1, hi => simp at hi

set_option maxHeartbeats 2000000 in
theorem hblock_is (key a : BitVec 128) (w : World) :
    Calls Try.prog 18 #[.agg (blk key), .agg (blk a)] w fun e w' => e = .returned (.bool true) ∧ Below w.heap.size w w' := by
  have q0 : objAt ((w.alloc (.cells (blk key) 27)).alloc (.cells (blk a) 27)) (w.heap.size) = some (.cells (blk key) 27 (0, 0)) := by simp [go_sem]
  have q1 : objAt ((w.alloc (.cells (blk key) 27)).alloc (.cells (blk a) 27)) (w.heap.size + 1) = some (.cells (blk a) 27 (0, 0)) := by simp [go_sem]
  have b0 : Below w.heap.size w ((w.alloc (.cells (blk key) 27)).alloc (.cells (blk a) 27)) := by go_grown
  go_enter Try.func18, Try.ntmps18
  go_wp2
  refine wp_region_rel (l := [_, _, _, _, _, _, _, _]) (last := _) (fun w' => objAt w' w.heap.size = some (.cells (blk key) 27 (0, 0)) ∧ objAt w' (w.heap.size + 1) = some (.cells (blk a) 27 (0, 0)) ∧ Hid (Below w.heap.size w w'))
    [isv (.agg (blk key)), isv (.slice (some ⟨w.heap.size + 1, 0, none⟩) 16 16), rowsOf 0 [bytesOf a], rowOf 0 (bytesOf (hashOf [bytesOf a] key)), isv (.agg (blk a)), isv (.agg (blk key)), isv (.agg (blk (gmul a key))), isv (.bool true)]
    (by kernel_rfl) (by kernel_rfl) ⟨oa_drew q0, oa_drew q1, start0 b0⟩ (fun _ _ hb hS => held2 hb hS) ?rstab ?rops ?rlast
  case rstab => exact stabs_cons (stab_isv _) (stabs_cons (stab_isv _) (stabs_cons (stab_rowsOf _ _) (stabs_cons (stab_rowOf _ _) (stabs_cons (stab_isv _) (stabs_cons (stab_isv _) (stabs_cons (stab_isv _) (stabs_cons (stab_isv _) stabs_nil)))))))
  case rops =>
    refine ⟨?_, ?_, ?_, ?_, ?_, ?_, ?_, ?_, trivial⟩
    · intro u w' hS hd
      refine opV_val (v := .agg (blk key)) (by rfl) ?_ rfl
      simp only [frameOf, Act.put, List.setIfInBounds_toArray, List.set_cons_zero, List.set_cons_succ]
      go_simp
    · intro u w' hS hd
      refine opV_val (v := .slice (some ⟨w.heap.size + 1, 0, none⟩) 16 16) (by rfl) ?_ rfl
      simp only [frameOf, Act.put, List.setIfInBounds_toArray, List.set_cons_zero, List.set_cons_succ]
      go_simp
    · intro u w' hS hd
      have d1 : u 1 = .slice (some ⟨w.heap.size + 1, 0, none⟩) 16 16 := hd ⟨1, .data⟩ (by simp) rfl
      refine opV_make (v := .slice (some ⟨w'.heap.size, 0, none⟩) 1 1) (w' := w'.alloc (.cells #[.slice (some ⟨w.heap.size + 1, 0, none⟩) 16 16] 35)) (by rfl) ?_ ((Below.refl _ _).alloc (Nat.le_refl _) _)
        (rowsOf_one (objAt_alloc_at _ _ _ rfl) (Nat.zero_le _) (rowOf_blk (oa_alloc hS.2.1 _) (Nat.zero_le _)))
      simp only [frameOf, Act.put, List.setIfInBounds_toArray, List.set_cons_zero, List.set_cons_succ]
      go_simp
    · intro u w' hS hd
      have d0 : u 0 = .agg (blk key) := hd ⟨0, .data⟩ (by simp) rfl
      have d2 : rowsOf 0 [bytesOf a] (u 2) w' := hd ⟨2, .data⟩ (by simp) rfl
      refine opV_call (f := 30) (args := #[.agg (blk key), u 2]) (by rfl) ?_ ((ihash_row key [bytesOf a] (u 2) w' d2 (by simp) (by simp [bytesOf])).mono fun e w2 ⟨v', he, hb, hr⟩ => ⟨v', he, hb, hr.mono (Nat.zero_le _)⟩)
      simp only [frameOf, Act.put, List.setIfInBounds_toArray, List.set_cons_zero, List.set_cons_succ]
      go_simp
    · intro u w' hS hd
      refine opV_val (v := .agg (blk a)) (by rfl) ?_ rfl
      simp only [frameOf, Act.put, List.setIfInBounds_toArray, List.set_cons_zero, List.set_cons_succ]
      go_simp
    · intro u w' hS hd
      refine opV_val (v := .agg (blk key)) (by rfl) ?_ rfl
      simp only [frameOf, Act.put, List.setIfInBounds_toArray, List.set_cons_zero, List.set_cons_succ]
      go_simp
    · intro u w' hS hd
      have d4 : u 4 = .agg (blk a) := hd ⟨4, .data⟩ (by simp) rfl
      have d5 : u 5 = .agg (blk key) := hd ⟨5, .data⟩ (by simp) rfl
      refine opV_callB (by rfl) ?_ (iprod_any a key w')
      simp only [frameOf, Act.put, List.setIfInBounds_toArray, List.set_cons_zero, List.set_cons_succ]
      go_simp
    · intro u w' hS hd
      have d3 : rowOf 0 (bytesOf (hashOf [bytesOf a] key)) (u 3) w' := hd ⟨3, .data⟩ (by simp) rfl
      have d6 : u 6 = .agg (blk (gmul a key)) := hd ⟨6, .data⟩ (by simp) rfl
      rw [hashOf_one] at d3
      refine opV_callB (f := 33) (args := #[u 3, .agg (blk (gmul a key))]) (by rfl) ?_ (is_any (gmul a key) (u 3) w' d3)
      simp only [frameOf, Act.put, List.setIfInBounds_toArray, List.set_cons_zero, List.set_cons_succ]
      go_simp
  case rlast =>
    intro u w1 hS hV
    have d7 : u 7 = .bool true := hV 7 (by decide)
    simp only [frameOf, Act.put, List.setIfInBounds_toArray, List.set_cons_zero, List.set_cons_succ]
    simp only [wpOp, List.length_cons, List.length_nil, Nat.zero_add, Nat.reduceAdd]
    go_simp
    refine .inl ?_
    go_wp2
    go_ret
    exact ⟨rfl, hS.2.2.out⟩
end Go.Proofs.Ytdaebcaokoajjaa
