/- Bytes as text, and the laws' small comparisons. -/
import Derived.Test.YtdaebcaokoajjaaIHash
import Derived.Laws.BytesString
namespace Go.Proofs.Ytdaebcaokoajjaa
open Go Go.RowKit Gf

/-- The text of some bytes. -/
def strOf (bs : List (BitVec 8)) : ByteArray := (bs.map n8).foldl (fun r n => r.push (UInt8.ofNat n.toNat)) ByteArray.empty

theorem run_text (n0 : Nat) (bs : List (BitVec 8)) (v : Value) (w : World) (h : rowOf n0 bs v w) : (convert 35 9 v).run Try.prog w = .ok (.string (strOf bs)) w := by
  obtain ⟨p, c, rfl, h2, h3, h4⟩ := h
  rw [run_convert_bytes_string w 35 9 5 p bs.length c Try.underlying35 Try.underlying5 Try.underlying9]
  by_cases hbs : bs = []
  · subst hbs
    cases p with
    | none => simp [Conv.bytesToString, strOf]
    | some a => exact run_bytesToString w a 0 c [] (by simp [loadCells, loadCellsFrom])
  · obtain ⟨b, o, rfl, h5, h6, h7⟩ := h4.resolve_left hbs
    have hl := run_loadCells_list (P := Try.prog) w ⟨b, o, none⟩ (bcells bs) (fun j u hj => by
      rw [bcells_get] at hj
      obtain ⟨x, hx, rfl⟩ := Option.map_eq_some_iff.1 hj
      rw [Addr.add_mid]
      exact h7 j x hx)
    have hlen : (bcells bs).length = bs.length := by simp [bcells]
    rw [hlen] at hl
    have e : bcells bs = (bs.map n8).map (Value.int .u8) := by simp [bcells]
    rw [e] at hl
    exact run_bytesToString w ⟨b, o, none⟩ bs.length c (bs.map n8) hl

set_option maxHeartbeats 1000000 in
theorem is_any (x : BitVec 128) (v : Value) (w : World) (h : rowOf 0 (bytesOf x) v w) :
    Calls Try.prog 33 #[v, .agg (blk x)] w fun e w' => e = .returned (.bool true) ∧ Below w.heap.size w w' := by
  have q0 : objAt (w.alloc (.cells (blk x) 27)) w.heap.size = some (.cells (blk x) 27 (0, 0)) := objAt_alloc_at _ _ _ rfl
  have b0 : Below w.heap.size w (w.alloc (.cells (blk x) 27)) := (Below.refl _ w).alloc (Nat.le_refl _) _
  have hr := stab_rowOf _ _ _ _ _ b0 h
  have t0 := run_text 0 (bytesOf x) v (w.alloc (.cells (blk x) 27)).drew hr
  have t1 := run_text 0 (bytesOf x) (.slice (some ⟨w.heap.size, 0, none⟩) 16 16) (w.alloc (.cells (blk x) 27)).drew (rowOf_blk (oa_drew q0) (Nat.zero_le _))
  obtain ⟨vp, vn, vc, rfl⟩ := rowOf_slice h
  clear h hr
  go_enter Try.func33, Try.ntmps33
  go_wp2
  refine wp_region_uni (fun w' => w' = (w.alloc (.cells (blk x) 27)).drew) (by kernel_rfl) (by kernel_rfl) ?_ ?_
  · rfl
  iterate 6 (refine uni_val (v := ?_) (by rfl) ?_ ?_; rotate_left; (focus (intro w2 hS; subst hS; go_simp; (try with_reducible rfl); done)); simp only [Act.put, List.setIfInBounds_toArray, List.set_cons_zero, List.set_cons_succ])
  refine uni_nil fun w1 hS => ?_
  subst hS
  go_wp2
  go_ret
  exact ⟨rfl, b0.drew⟩

set_option maxHeartbeats 1000000 in
theorem same_any (bs : List (BitVec 8)) (v u : Value) (w : World) (h : rowOf 0 bs v w) (h' : rowOf 0 bs u w) :
    Calls Try.prog 31 #[v, u] w fun e w' => e = .returned (.bool true) ∧ Below w.heap.size w w' := by
  have t0 := run_text 0 bs v w h
  have t1 := run_text 0 bs u w h'
  obtain ⟨vp, vn, vc, rfl⟩ := rowOf_slice h
  obtain ⟨up, un, uc, rfl⟩ := rowOf_slice h'
  clear h h'
  go_enter Try.func31, Try.ntmps31
  go_wp2
  go_ret
  exact ⟨rfl, Below.refl _ _⟩
end Go.Proofs.Ytdaebcaokoajjaa
