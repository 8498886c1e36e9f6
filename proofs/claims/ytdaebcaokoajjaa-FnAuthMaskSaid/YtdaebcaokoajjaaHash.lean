/- GHASH as the code hands it up, and the thin package's Hash, which copies its inputs. -/
import Derived.Test.YtdaebcaokoajjaaCop
namespace Go.Proofs.Ytdaebcaokoajjaa
open Go Go.RowKit Gf

/-- A slice of slices of bytes that hold inp. -/
def rowsOf (n0 : Nat) (inp : List (List (BitVec 8))) : Value → World → Prop := fun v W =>
  ∃ (p : Option Addr) (c : Nat), v = .slice p inp.length c ∧ inp.length ≤ c ∧ (c : Int) ≤ 9223372036854775807 ∧
    (inp = [] ∨ ∃ b o, p = some ⟨b, o, none⟩ ∧ n0 ≤ b ∧ b < W.heap.size ∧ ∀ i bs, inp[i]? = some bs → ∃ rv, W.cell? ⟨b, o + i, none⟩ = some rv ∧ rowOf n0 bs rv W)
theorem stab_rowsOf (n0 : Nat) (inp : List (List (BitVec 8))) : Stab (rowsOf n0 inp) := by
  rintro v w w' hb ⟨p, c, h1, h2, h3, h4⟩
  refine ⟨p, c, h1, h2, h3, h4.imp id ?_⟩
  rintro ⟨b, o, h5, h6, h7, h8⟩
  refine ⟨b, o, h5, h6, Nat.lt_of_lt_of_le h7 hb.size, fun i bs hi => ?_⟩
  obtain ⟨rv, g1, g2⟩ := h8 i bs hi
  exact ⟨rv, (cell_same (hb.block b h7) _).trans g1, stab_rowOf _ _ _ _ _ hb g2⟩
theorem rowsOf.inAt {n0 Y : Nat} {inp : List (List (BitVec 8))} {v : Value} {w : World} (h : rowsOf n0 inp v w) (hY : Y < n0 ∨ w.heap.size ≤ Y) : InAt Y w v inp := by
  obtain ⟨p, c, h1, h2, h3, h4⟩ := h
  refine ⟨p, c, h1, h2, h3, h4.imp id ?_⟩
  rintro ⟨b, o, h5, h6, h7, h8⟩
  refine ⟨b, o, h5, by omega, h7, fun i bs hi => ?_⟩
  obtain ⟨rv, g1, g2⟩ := h8 i bs hi
  exact ⟨rv, g1, g2.rowAt hY⟩
theorem InAt.stab {Y : Nat} {inp : List (List (BitVec 8))} {v : Value} {w w' : World} (h : InAt Y w v inp) (hb : Below w.heap.size w w') (hs : w.heap.size ≤ Y) : InAt Y w' v inp :=
  h.move hb.size hs (fun b hb' _ => hb.block b hb')

/-- The hash of the inputs by the key. -/
def hashOf (inp : List (List (BitVec 8))) (h : BitVec 128) : BitVec 128 := yk (seqOf inp) h (seqOf inp).length

theorem rowOf_blk {n0 b : Nat} {x : BitVec 128} {t : TypeId} {fr : Nat × Nat} {w : World} (h : objAt w b = some (.cells (blk x) t fr)) (hn : n0 ≤ b) : rowOf n0 (bytesOf x) (.slice (some ⟨b, 0, none⟩) 16 16) w := by
  refine ⟨_, 16, by rw [bytesOf_length], by rw [bytesOf_length]; decide, by decide, .inr ⟨b, 0, rfl, hn, oa_lt h, fun i v hv => ?_⟩⟩
  have hi : i < 16 := by have := (List.getElem?_eq_some_iff.1 hv).1; rwa [bytesOf_length] at this
  rw [bytesOf_get x i hi] at hv
  rw [Nat.zero_add, ← Option.some.inj hv]
  exact (objAt_cell h i).trans (blk_get x i hi)

set_option maxRecDepth 100000 in
set_option maxHeartbeats 1000000 in
theorem gh47_any (H : Nat) (h : BitVec 128) (tH : TypeId) (inp : List (List (BitVec 8))) (v : Value) (w : World) (hH : objAt w H = some (.cells (blk h) tH (0, 0))) (hin : rowsOf 0 inp v w) :
    Calls Try.prog 47 #[.pointer (some ⟨H, 0, none⟩), v] w fun e w' => e = .returned (.slice (some ⟨w.heap.size, 0, none⟩) 16 16) ∧ objAt w' w.heap.size = some (.cells (blk (hashOf inp h)) 27 (0, 0)) ∧ Below w.heap.size w w' := by
  have hHl := oa_lt hH
  have hI := (hin.inAt (Y := w.heap.size) (.inr (Nat.le_refl _))).stab ((Below.refl _ w).alloc (Nat.le_refl _) (.cells (blk 0#128) 27)) (Nat.le_refl _)
  obtain ⟨p, c, rfl, h2, h3, h4⟩ := hin
  have g := ghash_any w.heap.size H 0#128 h 27 tH inp p c (w.alloc (.cells (blk 0#128) 27)) (objAt_alloc_at _ _ _ rfl) (oa_alloc hH _) (by omega) hI
  have b1 := Lib.hid ((Below.refl w.heap.size w).alloc (Nat.le_refl _) (.cells (blk 0#128) 27))
  clear hI h4 hH
  go_enter Try.func47, Try.ntmps47
  go_wp2_with (go_at_call 54; (with_reducible refine g.mono ?_); rintro e w1 ⟨rfl, g2, hk1⟩; have hK := Lib.hid hk1; clear hk1)
  go_ret
  exact ⟨rfl, g2, b1.out.trans hK.out.bel⟩

/-- A slice of slices that the call itself has made by appending, as far as it has come. -/
def lst (n0 : Nat) (done : List (List (BitVec 8))) : Value → World → Prop := fun v W =>
  (done = [] ∧ v = .slice none 0 0) ∨ ∃ (b : Nat) (cs : Array Value), v = .slice (some ⟨b, 0, none⟩) done.length cs.size ∧ n0 ≤ b ∧ objAt W b = some (.cells cs 35 (0, 0)) ∧ done.length ≤ cs.size ∧ cs.size ≤ maxLen ∧
    (∀ i : Nat, i < cs.size → ∃ p n c, cs[i]? = some (.slice p n c)) ∧ (∀ (i : Nat) (bs : List (BitVec 8)), done[i]? = some bs → ∃ rv, cs[i]? = some rv ∧ rowOf n0 bs rv W)
theorem rowOf_slice {n0 : Nat} {bs : List (BitVec 8)} {v : Value} {W : World} (h : rowOf n0 bs v W) : ∃ p n c, v = .slice p n c := by
  obtain ⟨p, c, h, _⟩ := h
  exact ⟨p, _, c, h⟩
theorem lst.rowsOf {n0 : Nat} {done : List (List (BitVec 8))} {v : Value} {W : World} (h : lst n0 done v W) : rowsOf n0 done v W := by
  rcases h with ⟨rfl, rfl⟩ | ⟨b, cs, h1, h2, h3, h4, h5, _, h7⟩
  · exact ⟨none, 0, rfl, by simp, by decide, .inl rfl⟩
  · refine ⟨_, cs.size, h1, h4, by simp only [maxLen] at h5; omega, .inr ⟨b, 0, rfl, h2, oa_lt h3, fun i bs hi => ?_⟩⟩
    obtain ⟨rv, g1, g2⟩ := h7 i bs hi
    exact ⟨rv, by rw [Nat.zero_add]; exact (objAt_cell h3 i).trans g1, g2⟩
/-- A row of bytes does not lie in a block of slices. -/
theorem rowOf_setCell {n0 b k : Nat} {bs : List (BitVec 8)} {v u : Value} {W : World} {cs : Array Value} (h : rowOf n0 bs v W) (hb : objAt W b = some (.cells cs 35 (0, 0))) (hcs : ∀ i : Nat, i < cs.size → ∃ p n c, cs[i]? = some (.slice p n c)) :
    rowOf n0 bs v (W.setCell ⟨b, k, none⟩ u) := by
  obtain ⟨p, c, h1, h2, h3, h4⟩ := h
  refine ⟨p, c, h1, h2, h3, ?_⟩
  by_cases hbs : bs = []
  · exact .inl hbs
  · obtain ⟨rb, o, h5, h6, h7, h8⟩ := h4.resolve_left hbs
    have hne : rb ≠ b := by
      rintro rfl
      obtain ⟨x, hx⟩ : ∃ x, bs[0]? = some x := by
        cases bs with
        | nil => exact absurd rfl hbs
        | cons x l => exact ⟨x, rfl⟩
      have hc := h8 0 x hx
      rw [objAt_cell hb] at hc
      have hlt := (Array.getElem?_eq_some_iff.1 hc).1
      obtain ⟨p', n', c', hs⟩ := hcs _ hlt
      rw [hs] at hc
      cases hc
    refine .inr ⟨rb, o, h5, h6, by simpa using h7, fun i x hx => ?_⟩
    exact (cell_same (objAt_setCell W b k u rb hne) _).trans (h8 i x hx)
theorem zeroCells_slice (n i : Nat) (hi : i < n) : (Builtin.zeroCells (Value.slice none 0 0).cells n)[i]? = some (.slice none 0 0) := by
  unfold Builtin.zeroCells
  have h : (Value.slice none 0 0).cells = #[.slice none 0 0] := rfl
  rw [h]
  simp [hi, Nat.mod_one]

theorem run_append_one (n0 : Nat) (done : List (List (BitVec 8))) (bs : List (BitVec 8)) (lv rv : Value) (tb : Nat) (ty : TypeId) (W : World) (hl : lst n0 done lv W) (hr : rowOf n0 bs rv W)
    (ht : objAt W tb = some (.cells #[rv] 35 (0, 0))) (hn0 : n0 ≤ W.heap.size) (hlen : done.length + 1 ≤ 4294967296) :
    ∃ v' W', (Builtin.append_ #[38, 38] ty #[lv, .slice (some ⟨tb, 0, none⟩) 1 1]).run Try.prog W = .ok v' W' ∧ lst n0 (done ++ [bs]) v' W' ∧ Below n0 W W' := by
  obtain ⟨i, hi, hs, hb, hz⟩ := info35
  obtain ⟨rp, rn, rc, hrv⟩ := rowOf_slice hr
  have hone : ∀ u ∈ [rv], u.oneCell' = true := fun u hu => by rw [List.mem_singleton.1 hu, hrv]; rfl
  have hsrc : Src Try.prog i.size 38 (.slice (some ⟨tb, 0, none⟩) 1 1) 1 [rv] W :=
    Src.ofSlice W Try.underlying38 ⟨tb, 0, none⟩ 1 1 [rv] (by rw [hs]; rfl) (fun j u hj => by
      match j, hj with
      | 0, hj =>
        obtain rfl : rv = u := by simpa using hj
        exact (objAt_cell ht 0).trans rfl
      | j + 1, hj => simp at hj) hone
  have hgrow : ∀ (base : Option Addr) (olds : List Value) (cap : Nat), lv = .slice base done.length cap → cap < done.length + 1 → olds.length = done.length →
      (Builtin.firstCells i.size done.length (.slice base done.length cap)).run Try.prog W.drew = .ok olds.toArray W.drew →
      (∀ (k : Nat) (bs' : List (BitVec 8)), done[k]? = some bs' → ∃ rv', olds[k]? = some rv' ∧ rowOf n0 bs' rv' W) →
      ∃ v' W', (Builtin.append_ #[38, 38] ty #[lv, .slice (some ⟨tb, 0, none⟩) 1 1]).run Try.prog W = .ok v' W' ∧ lst n0 (done ++ [bs]) v' W' ∧ Below n0 W W' := by
    intro base olds cap hlv hcap hol hold hrows
    have hfit : Builtin.nextslicecap (done.length + 1) cap * i.bytes ≤ 281474976710656 := by
      have h2 := nextslicecap_le hcap
      rw [hb]
      omega
    have hrun := run_append_grow_src (P := Try.prog) W 38 38 ty 35 i (.slice none 0 0) Try.underlying38 hi hz base done.length cap olds hold (.slice (some ⟨tb, 0, none⟩) 1 1) 1 [rv] hsrc hcap (by omega) hfit
    rw [← hlv] at hrun
    have hge := grownCap_ge W (done.length + 1) cap 35
    have hle := grownCap_le_maxLen W (done.length + 1) cap 35 (by simp only [maxLen]; omega)
    have hbel : Below W.heap.size W (W.drew.alloc (.cells ((olds ++ [rv]).toArray ++ Builtin.zeroCells (Value.slice none 0 0).cells (grownCap W (done.length + 1) cap 35 - (done.length + 1))) 35)) := ((Below.refl _ _).drew).alloc (by simp) _
    have hsz : ((olds ++ [rv]).toArray ++ Builtin.zeroCells (Value.slice none 0 0).cells (grownCap W (done.length + 1) cap 35 - (done.length + 1))).size = grownCap W (done.length + 1) cap 35 := by
      have h1 : (Value.slice none 0 0).cells.size = 1 := rfl
      simp only [Array.size_append, List.size_toArray, size_zeroCells, h1, List.length_append, List.length_singleton, hol]
      omega
    have hcell : ∀ k : Nat, k < done.length + 1 → ((olds ++ [rv]).toArray ++ Builtin.zeroCells (Value.slice none 0 0).cells (grownCap W (done.length + 1) cap 35 - (done.length + 1)))[k]? = (olds ++ [rv])[k]? := fun k hk => by
      rw [Array.getElem?_append_left (by simp [hol]; exact hk)]
      simp
    have hrow : ∀ (k : Nat) (bs' : List (BitVec 8)), (done ++ [bs])[k]? = some bs' → ∃ rv', (olds ++ [rv])[k]? = some rv' ∧ rowOf n0 bs' rv' W := by
      intro k bs' hk
      by_cases hlt : k < done.length
      · rw [List.getElem?_append_left hlt] at hk
        obtain ⟨rv', g1, g2⟩ := hrows k bs' hk
        exact ⟨rv', by rw [List.getElem?_append_left (by omega)]; exact g1, g2⟩
      · have hk2 : k < done.length + 1 := by have := (List.getElem?_eq_some_iff.1 hk).1; simpa using this
        obtain rfl : k = done.length := by omega
        have e : bs = bs' := by simpa using hk
        exact ⟨rv, by rw [← hol]; simp, e ▸ hr⟩
    refine ⟨_, _, hrun, .inr ⟨W.heap.size, _, ?_, hn0, objAt_alloc_at _ _ _ rfl, ?_, ?_, ?_, ?_⟩, hbel.mono hn0⟩
    · rw [hsz]; simp
    · rw [hsz]; simpa using hge
    · rw [hsz]; exact hle
    · intro k hk
      rw [hsz] at hk
      by_cases hlt : k < done.length + 1
      · obtain ⟨bs', hbs'⟩ : ∃ bs', (done ++ [bs])[k]? = some bs' := ⟨_, List.getElem?_eq_getElem (by simpa using hlt)⟩
        obtain ⟨rv', g1, g2⟩ := hrow k bs' hbs'
        obtain ⟨p', n', c', e⟩ := rowOf_slice g2
        exact ⟨p', n', c', by rw [hcell k hlt, g1, e]⟩
      · refine ⟨none, 0, 0, ?_⟩
        rw [Array.getElem?_append_right (by simp [hol]; omega)]
        refine zeroCells_slice _ _ ?_
        simp [hol]
        omega
    · intro k bs' hk
      have hlt : k < done.length + 1 := by have := (List.getElem?_eq_some_iff.1 hk).1; simpa using this
      obtain ⟨rv', g1, g2⟩ := hrow k bs' hk
      exact ⟨rv', (hcell k hlt).trans g1, stab_rowOf _ _ _ _ _ hbel g2⟩
  rcases hl with ⟨rfl, rfl⟩ | ⟨b, cs, rfl, h2, h3, h4, h5, h6, h7⟩
  · exact hgrow none [] 0 rfl (by simp) rfl (run_firstCells_none _ _ _ _ _) (fun k bs' hk => by simp at hk)
  · by_cases hroom : done.length + 1 ≤ cs.size
    · have hrun := run_append_room_src (P := Try.prog) W 38 38 ty 35 i Try.underlying38 hi b 0 done.length cs.size (.slice (some ⟨tb, 0, none⟩) 1 1) 1 [rv] hsrc hroom
        (fun j hj => by
          obtain rfl : j = 0 := by simpa using hj
          rw [hs, objAt_cell h3]
          obtain ⟨p', n', c', e⟩ := h6 done.length (by omega)
          simp [e]) (fun j hj => objAt_free h3 _)
      rw [hs] at hrun
      have hset : W.setCells b (0 + done.length * 1) [rv] = W.setCell ⟨b, done.length, none⟩ rv := by
        simp [World.setCells]
      rw [hset] at hrun
      refine ⟨_, _, hrun, .inr ⟨b, cs.setIfInBounds done.length rv, by simp, h2, objAt_set h3 _ _, by simpa using hroom, by simpa using h5, fun k hk => ?_, fun k bs' hk => ?_⟩, (Below.refl _ _).setCell (p := ⟨b, done.length, none⟩) h2 _⟩
      · by_cases e : done.length = k
        · subst e
          refine ⟨rp, rn, rc, ?_⟩
          rw [Array.getElem?_setIfInBounds_self_of_lt (by simpa using hk), hrv]
        · rw [Array.getElem?_setIfInBounds_ne e]
          exact h6 k (by simpa using hk)
      · by_cases e : done.length = k
        · subst e
          have e' : bs = bs' := by simpa using hk
          refine ⟨rv, Array.getElem?_setIfInBounds_self_of_lt (by omega), ?_⟩
          rw [← e']
          exact rowOf_setCell hr h3 h6
        · have hlt : k < done.length := by
            have h9 : k < done.length + 1 := by have := (List.getElem?_eq_some_iff.1 hk).1; simpa using this
            omega
          rw [List.getElem?_append_left hlt] at hk
          obtain ⟨rv', g1, g2⟩ := h7 k bs' hk
          exact ⟨rv', by rw [Array.getElem?_setIfInBounds_ne e]; exact g1, rowOf_setCell g2 h3 h6⟩
    · obtain e : cs.size = done.length := by omega
      refine hgrow _ cs.toList cs.size rfl (by omega) (by simp [e]) ?_ (fun k bs' hk => ?_)
      · have := run_firstCells_some (P := Try.prog) W.drew i.size done.length ⟨b, 0, none⟩ done.length cs.size cs.toList (by rw [hs]; simp [e]) (fun j u hj => by
          rw [Addr.add_lit, Nat.zero_add]
          exact (objAt_cell (oa_drew h3) j).trans (by simpa using hj))
        exact this
      · obtain ⟨rv', g1, g2⟩ := h7 k bs' hk
        exact ⟨rv', by simpa using g1, g2⟩
end Go.Proofs.Ytdaebcaokoajjaa
