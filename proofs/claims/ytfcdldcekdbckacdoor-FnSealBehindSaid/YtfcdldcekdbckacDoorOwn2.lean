/- A row of bytes that the call itself has made, appended to again; what turns two blocks. -/
import Derived.Test.YtfcdldcekdbckacDoorBase
namespace Go.Proofs.YtfcdldcekdbckacDoor
open Go Go.RowKit Gf

/-- A slice that begins its own block of bytes. -/
def ownB (n0 : Nat) (bs : List (BitVec 8)) : Value → World → Prop := fun v W =>
  ∃ (N : Nat) (cs : Array Value), v = .slice (some ⟨N, 0, none⟩) bs.length cs.size ∧ n0 ≤ N ∧ objAt W N = some (.cells cs 5 (0, 0)) ∧ bs.length ≤ cs.size ∧ cs.size ≤ maxLen ∧ BytesIn cs 0 bs
theorem ownB.rowOf {n0 : Nat} {bs : List (BitVec 8)} {v : Value} {W : World} (h : ownB n0 bs v W) : rowOf n0 bs v W := by
  obtain ⟨N, cs, h1, h2, h3, h4, h5, h6⟩ := h
  rw [h1]
  exact rowOf_obj h3 h6 h2 h4 (by simp only [maxLen] at h5; omega)
theorem stab_ownB (n0 : Nat) (bs : List (BitVec 8)) : Stab (ownB n0 bs) := by
  rintro v w w' hb ⟨N, cs, h1, h2, h3, h4⟩
  exact ⟨N, cs, h1, h2, oa_below h3 hb (oa_lt h3), h4⟩
theorem own_grown {n0 : Nat} {zs : List (BitVec 8)} {W : World} {cap : Nat} {cs : Array Value} (hn0 : n0 ≤ W.heap.size) (hcs : cs = (bcells zs).toArray ++ Builtin.zeroCells (Value.int .u8 0).cells (cap - zs.length)) (hge : zs.length ≤ cap) (hle : cap ≤ maxLen) :
    ownB n0 zs (.slice (some ⟨W.heap.size, 0, none⟩) zs.length cap) (W.drew.alloc (.cells cs 5)) := by
  have hsz : cs.size = cap := by
    have h1 : (Value.int .u8 0).cells.size = 1 := rfl
    rw [hcs]
    simp only [Array.size_append, List.size_toArray, size_zeroCells, h1, bcells, List.length_map]
    omega
  refine ⟨W.heap.size, cs, by rw [hsz], hn0, objAt_alloc_at _ _ _ rfl, by omega, by omega, fun i x hx => ?_⟩
  have hi : i < zs.length := (List.getElem?_eq_some_iff.1 hx).1
  rw [hcs, Nat.zero_add, Array.getElem?_append_left (by simp [bcells]; exact hi)]
  have := bcells_get zs i
  rw [hx] at this
  simpa using this
theorem src_row {n0 : Nat} {ys : List (BitVec 8)} {x : Value} {W : World} (h : rowOf n0 ys x W) : Src Tryd.prog 1 22 x ys.length (bcells ys) W := by
  obtain ⟨p, c, rfl, _, _, h4⟩ := h
  by_cases hys : ys = []
  · subst hys
    refine ⟨.inl ⟨5, Tryd.underlying22⟩, fun _ => rfl, ?_, ?_, rfl, fun _ h => by cases h⟩
    · cases p <;> simp [Builtin.firstCells, loadCells, loadCellsFrom, bcells]
    · cases p <;> simp [Builtin.firstCells, loadCells, loadCellsFrom, bcells]
  · obtain ⟨b, o, rfl, _, _, hc⟩ := h4.resolve_left hys
    refine Src.ofSlice W Tryd.underlying22 ⟨b, o, none⟩ ys.length c (bcells ys) (by simp [bcells]) (fun j u hj => ?_) (fun u hu => bcells_one ys u hu)
    rw [bcells_get] at hj
    obtain ⟨y, hy, rfl⟩ := Option.map_eq_some_iff.1 hj
    rw [Addr.add_mid]
    exact hc j y hy
theorem own_app (n0 : Nat) (bs ys : List (BitVec 8)) (v x : Value) (ty : TypeId) (W : World) (ho : ownB n0 bs v W) (hr : rowOf 0 ys x W) (hn0 : n0 ≤ W.heap.size) (hlen : bs.length + ys.length ≤ 1099511627776) :
    ∃ v' W', (Builtin.append_ #[22, 22] ty #[v, x]).run Tryd.prog W = .ok v' W' ∧ ownB n0 (bs ++ ys) v' W' ∧ Below n0 W W' := by
  obtain ⟨i, hi, hs, hb, hz⟩ := info5
  obtain ⟨N, cs, rfl, h2, h3, h4, h5, h6⟩ := ho
  have hsrc := src_row hr
  rw [← hs] at hsrc
  by_cases hroom : bs.length + ys.length ≤ cs.size
  · have hrun := run_append_room_src (P := Tryd.prog) W 22 22 ty 5 i Tryd.underlying22 hi N 0 bs.length cs.size x ys.length (bcells ys) hsrc hroom
      (fun j hj => by
        rw [hs, objAt_cell h3, Nat.zero_add, Nat.mul_one]
        have : bs.length + j < cs.size := by simp [bcells] at hj; omega
        simp [this]) (fun j hj => objAt_free h3 _)
    rw [hs, Nat.zero_add, Nat.mul_one] at hrun
    refine ⟨_, _, hrun, ⟨N, putV cs bs.length (bcells ys), by rw [putV_size, List.length_append], h2, objAt_setCells N 5 _ _ _ _ h3, by rw [putV_size, List.length_append]; exact hroom, by rw [putV_size]; exact h5, fun k u hk => ?_⟩, below_setCells h2 _ _ _⟩
    rw [Nat.zero_add]
    by_cases hlt : k < bs.length
    · rw [putV_out _ _ _ _ (.inl hlt)]
      rw [List.getElem?_append_left hlt] at hk
      have := h6 k u hk
      rwa [Nat.zero_add] at this
    · rw [List.getElem?_append_right (by omega)] at hk
      have hk2 : k - bs.length < ys.length := (List.getElem?_eq_some_iff.1 hk).1
      have := putV_in (bcells ys) cs bs.length (k - bs.length) (by rw [bcells_length]; exact hk2) (by rw [bcells_length]; exact hroom)
      rw [show bs.length + (k - bs.length) = k by omega] at this
      rw [this, bcells_get, hk]; rfl
  · have hcap : cs.size < bs.length + ys.length := by omega
    have hfit : Builtin.nextslicecap (bs.length + ys.length) cs.size * i.bytes ≤ 281474976710656 := by
      have := nextslicecap_le hcap
      rw [hb]
      omega
    have hold : (Builtin.firstCells i.size bs.length (.slice (some ⟨N, 0, none⟩) bs.length cs.size)).run Tryd.prog W.drew = .ok (bcells bs).toArray W.drew :=
      run_firstCells_some (P := Tryd.prog) W.drew i.size bs.length ⟨N, 0, none⟩ bs.length cs.size (bcells bs) (by rw [hs]; simp [bcells]) (fun j u hj => by
        rw [bcells_get] at hj
        obtain ⟨y, hy, rfl⟩ := Option.map_eq_some_iff.1 hj
        rw [Addr.add_lit]
        exact (objAt_cell (oa_drew h3) _).trans (h6 j y hy))
    have hrun := run_append_grow_src (P := Tryd.prog) W 22 22 ty 5 i (.int .u8 0) Tryd.underlying22 hi hz (some ⟨N, 0, none⟩) bs.length cs.size (bcells bs) hold x ys.length (bcells ys) hsrc hcap (by omega) hfit
    have hl : (bs ++ ys).length = bs.length + ys.length := List.length_append
    have hg := own_grown (n0 := n0) (zs := bs ++ ys) (W := W) (cap := grownCap W (bs.length + ys.length) cs.size 5) hn0 rfl (by rw [hl]; exact grownCap_ge _ _ _ _) (grownCap_le_maxLen _ _ _ _ (by simp only [maxLen]; omega))
    rw [hl, show bcells (bs ++ ys) = bcells bs ++ bcells ys by simp [bcells]] at hg
    exact ⟨_, _, hrun, hg, ((Below.refl n0 W).drew).alloc hn0 _⟩
/-- .. or nothing yet. -/
def outB (n0 : Nat) (bs : List (BitVec 8)) : Value → World → Prop := fun v W => (bs = [] ∧ v = .slice none 0 0) ∨ ownB n0 bs v W
theorem outB.rowOf {n0 : Nat} {bs : List (BitVec 8)} {v : Value} {W : World} (h : outB n0 bs v W) : rowOf n0 bs v W := by
  rcases h with ⟨rfl, rfl⟩ | h
  · exact rowOf_nil _ _
  · exact h.rowOf
theorem stab_outB (n0 : Nat) (bs : List (BitVec 8)) : Stab (outB n0 bs) := fun v w w' hb h => h.imp id fun h => stab_ownB n0 bs v w w' hb h
theorem out_app (n0 : Nat) (bs ys : List (BitVec 8)) (v x : Value) (ty : TypeId) (W : World) (ho : outB n0 bs v W) (hr : Go.Proofs.YtfcdldcekdbckacDoor.rowOf 0 ys x W) (hn0 : n0 ≤ W.heap.size) (hlen : bs.length + ys.length ≤ 1099511627776) :
    ∃ v' W', (Builtin.append_ #[22, 22] ty #[v, x]).run Tryd.prog W = .ok v' W' ∧ outB n0 (bs ++ ys) v' W' ∧ Below n0 W W' := by
  rcases ho with ⟨rfl, rfl⟩ | ho
  · obtain ⟨p, c, rfl, h2, h3, h4⟩ := hr
    obtain ⟨i, hi, hs, hb, hz⟩ := info5
    by_cases hbs : ys = []
    · subst hbs
      refine ⟨.slice none 0 0, W, ?_, .inl ⟨rfl, rfl⟩, Below.refl _ _⟩
      cases p <;> simp [Builtin.append_, run_underlying Tryd.underlying22, sizeOf, typeInfo, hi, Builtin.lenOf, Builtin.firstCells, loadCells, loadCellsFrom]
    · obtain ⟨b, o, rfl, _, h7, h8⟩ := h4.resolve_left hbs
      have hpos : 0 < ys.length := List.length_pos_iff.2 hbs
      have hrun := run_append_nil (P := Tryd.prog) (w := W) 22 ty 5 i (.int .u8 0) Tryd.underlying22 hi hz ⟨b, o, none⟩ ys.length c (bcells ys) (by rw [hs]; simp [bcells]) (fun j u hu => by
        rw [bcells_get] at hu
        obtain ⟨x, hx, rfl⟩ := Option.map_eq_some_iff.1 hu
        rw [Addr.add_mid]
        exact h8 j x hx) hpos (by simp only [List.length_nil] at hlen; omega) (by rw [hb]; simp only [List.length_nil] at hlen; omega)
      exact ⟨_, _, hrun, .inr (own_grown hn0 rfl (grownCap_ge _ _ _ _) (grownCap_le_maxLen _ _ _ _ (by simp only [List.length_nil] at hlen; simp only [maxLen]; omega))), ((Below.refl n0 W).drew).alloc hn0 _⟩
  · obtain ⟨v', W', h1, h2, h3⟩ := own_app n0 bs ys v x ty W ho hr hn0 hlen
    exact ⟨v', W', h1, .inr h2, h3⟩

/-! ### A row that does not lie in the block Y -/
def RowAt (Y : Nat) (W : World) (v : Value) (bs : List (BitVec 8)) : Prop :=
  ∃ (p : Option Addr) (c : Nat), v = .slice p bs.length c ∧ bs.length ≤ c ∧ (c : Int) ≤ 9223372036854775807 ∧
    (bs = [] ∨ ∃ b o, p = some ⟨b, o, none⟩ ∧ b ≠ Y ∧ b < W.heap.size ∧ ∀ i x, bs[i]? = some x → W.cell? ⟨b, o + i, none⟩ = some (.int .u8 (n8 x)))
theorem rowOf.rowAt {n0 Y : Nat} {bs : List (BitVec 8)} {v : Value} {w : World} (h : Go.Proofs.YtfcdldcekdbckacDoor.rowOf n0 bs v w) (hY : Y < n0 ∨ w.heap.size ≤ Y) : RowAt Y w v bs := by
  obtain ⟨p, c, h1, h2, h3, h4⟩ := h
  refine ⟨p, c, h1, h2, h3, h4.imp id ?_⟩
  rintro ⟨b, o, h5, h6, h7, h8⟩
  exact ⟨b, o, h5, by omega, h7, h8⟩
/-- A call that turns two blocks of those that were there. -/
structure Keeps2 (g h : Nat) (w w' : World) : Prop where
  bel : Below (min g h) w w'
  size : w.heap.size ≤ w'.heap.size
  other : ∀ k, k < w.heap.size → k ≠ g → k ≠ h → objAt w' k = objAt w k
theorem outB.keeps2 {n0 g h : Nat} {bs : List (BitVec 8)} {v : Value} {w w' : World} (ho : outB n0 bs v w) (hk : Keeps2 g h w w') (hg : g < n0) (hh : w.heap.size ≤ h) : outB n0 bs v w' := by
  refine ho.imp id ?_
  rintro ⟨N, cs, h1, h2, h3, h4⟩
  have := oa_lt h3
  exact ⟨N, cs, h1, h2, (hk.other N this (by omega) (by omega)).trans h3, h4⟩
theorem outB.move {n0 : Nat} {bs : List (BitVec 8)} {v : Value} {w w' : World} (ho : outB n0 bs v w) (h : ∀ N, n0 ≤ N → N < w.heap.size → objAt w' N = objAt w N) : outB n0 bs v w' := by
  refine ho.imp id ?_
  rintro ⟨N, cs, h1, h2, h3, h4⟩
  exact ⟨N, cs, h1, h2, (h N h2 (oa_lt h3)).trans h3, h4⟩
end Go.Proofs.YtfcdldcekdbckacDoor
