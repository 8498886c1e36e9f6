/- A row of bytes that the call itself has made, appended to: what stays as it was. And a fresh block, whatever it holds. -/
import Derived.Test.YtfcdldcekdbckacDoorOwn2
namespace Go.Proofs.YtfcdldcekdbckacDoor
open Go Go.RowKit Gf

/-- An own row stays as it is where cells behind it are written. -/
theorem ownB.setCells {n0 N o : Nat} {zs : List (BitVec 8)} {u : Value} {W : World} {cs : Array Value} (h : ownB n0 zs u W) (hN : objAt W N = some (.cells cs 5 (0, 0))) (ho : zs.length ≤ o) (vs : List Value) : ownB n0 zs u (W.setCells N o vs) := by
  obtain ⟨M, ds, h1, h2, h3, h4, h5, h6⟩ := h
  by_cases e : M = N
  · subst e
    refine ⟨M, putV ds o vs, by rw [putV_size]; exact h1, h2, objAt_setCells M 5 vs o W ds h3, by rw [putV_size]; exact h4, by rw [putV_size]; exact h5, fun i x hx => ?_⟩
    have hi : i < zs.length := (List.getElem?_eq_some_iff.1 hx).1
    rw [putV_out _ _ _ _ (.inl (by omega))]
    exact h6 i x hx
  · exact ⟨M, ds, h1, h2, (objAt_setCells_ne N M e vs o W).trans h3, h4, h5, h6⟩
theorem own_keep (n0 : Nat) (bs ys : List (BitVec 8)) (v x : Value) (ty : TypeId) (W : World) (ho : ownB n0 bs v W) (hr : rowOf 0 ys x W) (hn0 : n0 ≤ W.heap.size) (hlen : bs.length + ys.length ≤ 1099511627776) :
    ∃ v' W', (Builtin.append_ #[22, 22] ty #[v, x]).run Tryd.prog W = .ok v' W' ∧ ownB n0 (bs ++ ys) v' W' ∧ Below n0 W W' ∧ (∀ zs u, zs.length ≤ bs.length → ownB n0 zs u W → ownB n0 zs u W') ∧
      ∀ M c t, t ≠ 5 → objAt W M = some (.cells c t (0, 0)) → objAt W' M = some (.cells c t (0, 0)) := by
  obtain ⟨i, hi, hs, hb, hz⟩ := info5
  obtain ⟨N, cs, rfl, h2, h3, h4, h5, h6⟩ := ho
  have hsrc := src_row hr
  rw [← hs] at hsrc
  by_cases hroom : bs.length + ys.length ≤ cs.size
  · have hrun := run_append_room_src (P := Tryd.prog) W 22 22 ty 5 i Tryd.underlying22 hi N 0 bs.length cs.size x ys.length (bcells ys) hsrc hroom
      (fun j hj => by
        rw [hs, objAt_cell h3, Nat.zero_add, Nat.mul_one]
        have : bs.length + j < cs.size := by simp [bcells] at hj; omega
        simp [this]) (fun j hj => objAt_free h3 _)
    rw [hs, Nat.zero_add, Nat.mul_one] at hrun
    refine ⟨_, _, hrun, ⟨N, putV cs bs.length (bcells ys), by rw [putV_size, List.length_append], h2, objAt_setCells N 5 _ _ _ _ h3, by rw [putV_size, List.length_append]; exact hroom, by rw [putV_size]; exact h5, fun k u hk => ?_⟩, below_setCells h2 _ _ _, fun zs u hz hu => hu.setCells h3 hz _, fun M c t ht hM => (objAt_setCells_ne N M (fun e => by subst e; rw [hM] at h3; cases h3; exact ht rfl) _ _ _).trans hM⟩
    rw [Nat.zero_add]
    by_cases hlt : k < bs.length
    · rw [putV_out _ _ _ _ (.inl hlt)]
      rw [List.getElem?_append_left hlt] at hk
      have := h6 k u hk
      rwa [Nat.zero_add] at this
    · rw [List.getElem?_append_right (by omega)] at hk
      have hk2 : k - bs.length < ys.length := (List.getElem?_eq_some_iff.1 hk).1
      have := putV_in (bcells ys) cs bs.length (k - bs.length) (by rw [bcells_length]; exact hk2) (by rw [bcells_length]; exact hroom)
      rw [show bs.length + (k - bs.length) = k by omega] at this
      rw [this, bcells_get, hk]; rfl
  · have hcap : cs.size < bs.length + ys.length := by omega
    have hfit : Builtin.nextslicecap (bs.length + ys.length) cs.size * i.bytes ≤ 281474976710656 := by
      have := nextslicecap_le hcap
      rw [hb]
      omega
    have hold : (Builtin.firstCells i.size bs.length (.slice (some ⟨N, 0, none⟩) bs.length cs.size)).run Tryd.prog W.drew = .ok (bcells bs).toArray W.drew :=
      run_firstCells_some (P := Tryd.prog) W.drew i.size bs.length ⟨N, 0, none⟩ bs.length cs.size (bcells bs) (by rw [hs]; simp [bcells]) (fun j u hj => by
        rw [bcells_get] at hj
        obtain ⟨y, hy, rfl⟩ := Option.map_eq_some_iff.1 hj
        rw [Addr.add_lit]
        exact (objAt_cell (oa_drew h3) _).trans (h6 j y hy))
    have hrun := run_append_grow_src (P := Tryd.prog) W 22 22 ty 5 i (.int .u8 0) Tryd.underlying22 hi hz (some ⟨N, 0, none⟩) bs.length cs.size (bcells bs) hold x ys.length (bcells ys) hsrc hcap (by omega) hfit
    have hl : (bs ++ ys).length = bs.length + ys.length := List.length_append
    have hg := own_grown (n0 := n0) (zs := bs ++ ys) (W := W) (cap := grownCap W (bs.length + ys.length) cs.size 5) hn0 rfl (by rw [hl]; exact grownCap_ge _ _ _ _) (grownCap_le_maxLen _ _ _ _ (by simp only [maxLen]; omega))
    rw [hl, show bcells (bs ++ ys) = bcells bs ++ bcells ys by simp [bcells]] at hg
    have hbw : Below W.heap.size W (W.drew.alloc (.cells ((bcells bs ++ bcells ys).toArray ++ Builtin.zeroCells (Value.int .u8 0).cells (grownCap W (bs.length + ys.length) cs.size 5 - (bs.length + ys.length))) 5)) := ((Below.refl _ W).drew).alloc (Nat.le_refl _) _
    exact ⟨_, _, hrun, hg, ((Below.refl n0 W).drew).alloc hn0 _, fun zs u _ hu => stab_ownB _ _ _ _ _ hbw hu, fun M c t _ hM => oa_below hM hbw (oa_lt hM)⟩
/-- An own row of nothing, just made. -/
theorem ownB_nil {n0 : Nat} {W : World} (h : n0 ≤ W.heap.size) : ownB n0 [] (.slice (some ⟨W.heap.size, 0, none⟩) 0 0) (W.alloc (.cells #[] 5)) :=
  ⟨W.heap.size, #[], rfl, h, objAt_alloc_at _ _ _ rfl, Nat.le_refl _, by decide, fun i x hx => by simp at hx⟩
/-- The address of a block that the call has made. -/
def blkAny (n0 : Nat) : Value → World → Prop := fun v w => ∃ N y, n0 ≤ N ∧ v = .pointer (some ⟨N, 0, none⟩) ∧ objAt w N = some (.cells (blk y) 69 (0, 0))
theorem stab_blkAny (n0 : Nat) : Stab (blkAny n0) := by
  rintro v w w' hb ⟨N, y, h1, h2, h3⟩
  exact ⟨N, y, h1, h2, oa_below h3 hb (oa_lt h3)⟩
def blkIs (n0 : Nat) (x : BitVec 128) : Value → World → Prop := fun v w => ∃ N, n0 ≤ N ∧ v = .pointer (some ⟨N, 0, none⟩) ∧ objAt w N = some (.cells (blk x) 69 (0, 0))
theorem stab_blkIs (n0 : Nat) (x : BitVec 128) : Stab (blkIs n0 x) := by
  rintro v w w' hb ⟨N, h1, h2, h3⟩
  exact ⟨N, h1, h2, oa_below h3 hb (oa_lt h3)⟩
theorem ownB.setRow {n0 N : Nat} {zs : List (BitVec 8)} {u : Value} {W : World} {cs : Array Value} {t : TypeId} (h : ownB n0 zs u W) (hN : objAt W N = some (.cells cs t (0, 0))) (ht : t ≠ 5) (D : Array Value) : ownB n0 zs u (W.setRow N D) := by
  obtain ⟨M, ds, h1, h2, h3, h4⟩ := h
  exact ⟨M, ds, h1, h2, oa_row h3 (fun e => by subst e; rw [hN] at h3; cases h3; exact ht rfl) D, h4⟩
end Go.Proofs.YtfcdldcekdbckacDoor
