/- Copies of bytes that own their block; a slice lengthened by bytes to be written. -/
import Derived.Test.YtfcdldcekdbckacDoorSeal
namespace Go.Proofs.YtfcdldcekdbckacDoor
open Go Go.RowKit Gf

theorem zero_bcells (n : Nat) : Builtin.zeroCells (Value.int .u8 0).cells n = (bcells (List.replicate n 0#8)).toArray := by
  have hc : (Value.int .u8 0).cells = #[.int .u8 0] := rfl
  apply Array.ext_getElem?
  intro i
  unfold Builtin.zeroCells
  rw [hc, tA (bcells (List.replicate n 0#8)) i, bcells_get]
  by_cases hi : i < n
  · simp [hi, Nat.mod_one, n8]
  · simp [hi]
theorem bcells_append (xs bs : List (BitVec 8)) : bcells (xs ++ bs) = bcells xs ++ bcells bs := by simp [bcells]
/-- Nothing, or a row that begins its own block (at or behind n0, ahead of n1), which holds bytes alone. -/
def outR (n0 n1 : Nat) (ds : List (BitVec 8)) : Value → World → Prop := fun v W => (ds = [] ∧ v = .slice none 0 0) ∨
  ∃ N zs, v = .slice (some ⟨N, 0, none⟩) ds.length (ds.length + zs.length) ∧ n0 ≤ N ∧ N < n1 ∧ objAt W N = some (.cells (bcells (ds ++ zs)).toArray 5 (0, 0)) ∧ ds.length + zs.length ≤ maxLen ∧ ds ≠ []
theorem outR.below {n0 n1 n : Nat} {ds : List (BitVec 8)} {v : Value} {w w' : World} (h : outR n0 n1 ds v w) (hb : Below n w w') (hn : n1 ≤ n) : outR n0 n1 ds v w' := by
  refine h.imp id ?_
  rintro ⟨N, zs, h1, h2, h3, h4, h5⟩
  exact ⟨N, zs, h1, h2, h3, oa_below h4 hb (by omega), h5⟩
theorem outR.slice {n0 n1 : Nat} {ds : List (BitVec 8)} {v : Value} {w : World} (h : outR n0 n1 ds v w) : ∃ p c, v = .slice p ds.length c := by
  rcases h with ⟨rfl, rfl⟩ | ⟨N, zs, rfl, _⟩
  · exact ⟨none, 0, rfl⟩
  · exact ⟨_, _, rfl⟩
set_option maxHeartbeats 1000000 in
theorem copied_own (w : World) (bs : List (BitVec 8)) (v : Value) (h : rowOf 0 bs v w) (hlen : bs.length ≤ 281474976710656) :
    Calls Tryd.prog 12 #[v] w fun e w' => ∃ v', e = .returned v' ∧ Below w.heap.size w w' ∧ outR w.heap.size w'.heap.size bs v' w' := by
  have key : ∃ v' w', (Builtin.append_ #[22, 22] 22 #[.slice none 0 0, v]).run Tryd.prog w = .ok v' w' ∧ outR w.heap.size w'.heap.size bs v' w' ∧ Below w.heap.size w w' := by
    obtain ⟨p, c, rfl, h2, h3, h4⟩ := h
    obtain ⟨i, hi, hs, hb, hz⟩ := info5
    by_cases hbs : bs = []
    · subst hbs
      refine ⟨.slice none 0 0, w, ?_, .inl ⟨rfl, rfl⟩, Below.refl _ _⟩
      cases p <;> simp [Builtin.append_, run_underlying Tryd.underlying22, sizeOf, typeInfo, hi, Builtin.lenOf, Builtin.firstCells, loadCells, loadCellsFrom]
    · obtain ⟨b, o, rfl, _, h7, h8⟩ := h4.resolve_left hbs
      have hpos : 0 < bs.length := List.length_pos_iff.2 hbs
      have hrun := run_append_nil (P := Tryd.prog) (w := w) 22 22 5 i (.int .u8 0) Tryd.underlying22 hi hz ⟨b, o, none⟩ bs.length c (bcells bs) (by rw [hs]; simp [bcells]) (fun j u hu => by
        rw [bcells_get] at hu
        obtain ⟨x, hx, rfl⟩ := Option.map_eq_some_iff.1 hu
        rw [Addr.add_mid]
        exact h8 j x hx) hpos (by omega) (by rw [hb]; omega)
      have hge := grownCap_ge w bs.length 0 5
      have hle := grownCap_le_maxLen w bs.length 0 5 (by simp only [maxLen]; omega)
      rw [zero_bcells, List.append_toArray, ← bcells_append] at hrun
      have hl : (List.replicate (grownCap w bs.length 0 5 - bs.length) 0#8).length = grownCap w bs.length 0 5 - bs.length := List.length_replicate
      refine ⟨_, _, hrun, .inr ⟨w.heap.size, List.replicate (grownCap w bs.length 0 5 - bs.length) 0#8, by rw [hl, Nat.add_sub_cancel' hge], Nat.le_refl _, by simp, objAt_alloc_at _ _ _ rfl, by rw [hl, Nat.add_sub_cancel' hge]; exact hle, hbs⟩, ((Below.refl _ _).drew).alloc (by simp) _⟩
  obtain ⟨v', w', hrun, hr, hb⟩ := key
  have hb' := Lib.hid hb
  have hr' := Lib.hid hr
  clear hb h hr
  go_enter Tryd.func12, Tryd.ntmps12
  go_wp2_with (at_builtin; refine wpList_append_run rfl _ _ _ _ rfl _ _ rfl rfl hrun ?_; clear hrun)
  go_ret
  exact ⟨v', rfl, hb'.out, hr'.out⟩

theorem put_front (ds : List (BitVec 8)) (n : Nat) : putL (bcells (List.replicate (ds.length + n) 0#8)).toArray 0 ds = (bcells (ds ++ List.replicate n 0#8)).toArray := by
  refine BytesIn.eq (fun i x hx => ?_) (by rw [putL_size, List.size_toArray, bcells_length, List.length_replicate, List.length_append, List.length_replicate])
  rw [Nat.zero_add]
  by_cases hi : i < ds.length
  · rw [List.getElem?_append_left hi] at hx
    have := putL_in (bcells (List.replicate (ds.length + n) 0#8)).toArray 0 ds i x hx (by rw [List.size_toArray, bcells_length, List.length_replicate]; omega)
    rwa [Nat.zero_add] at this
  · rw [List.getElem?_append_right (by omega)] at hx
    have hj := (List.getElem?_eq_some_iff.1 hx).1
    rw [List.length_replicate] at hj
    rw [List.getElem?_replicate_of_lt hj] at hx
    obtain rfl := Option.some.inj hx
    rw [putL_out _ _ _ _ (.inr (by omega)), tA, bcells_get, List.getElem?_replicate_of_lt (by omega)]; rfl

set_option maxRecDepth 100000 in
set_option maxHeartbeats 1000000 in
theorem sfa_any (n0 n1 : Nat) (ds : List (BitVec 8)) (v : Value) (n : Nat) (w : World) (h : outR n0 n1 ds v w) (hn0 : n0 ≤ w.heap.size) (hn : 0 < n) (hl : ds.length + n ≤ 281474976710656) :
    Calls Tryd.prog 17 #[v, .int .i64 (n : Int)] w fun e w' => ∃ N ys, e = .returned (.tuple #[.slice (some ⟨N, 0, none⟩) (ds.length + n) (ds.length + ys.length), .slice (some ⟨N, ds.length, none⟩) n ys.length]) ∧ n0 ≤ N ∧ (N < n1 ∨ N = w.heap.size) ∧ n ≤ ys.length ∧ ds.length + ys.length ≤ maxLen ∧
      objAt w' N = some (.cells (bcells (ds ++ ys)).toArray 5 (0, 0)) ∧ Below w.heap.size w w' := by
  obtain ⟨t, ht⟩ : ∃ t, t = ds.length + n := ⟨_, rfl⟩
  have et : (ds.length : Int) + (n : Int) = (t : Int) := by omega
  have hb : Below w.heap.size w (w.alloc (.cells (bcells (List.replicate t 0#8)).toArray 5)) := (Below.refl _ _).alloc (Nat.le_refl _) _
  have hmk := run_makeB w t t (by omega) (Nat.le_refl _)
  have ho := objAt_alloc_at w (.cells (bcells (List.replicate t 0#8)).toArray 5) _ rfl
  have k2 : (0 : Int) ≤ (t : Int) := by omega
  have k3 : (ds.length : Int) ≤ (t : Int) := by omega
  have htn : t - ds.length = n := by omega
  have hne : ¬ t = ds.length := by omega
  rcases h with ⟨rfl, rfl⟩ | ⟨N, zs, rfl, h2, h3, h4, h5, h6⟩
  · refine (sfa_nil n w hn (by simpa using hl)).mono fun e w' he => ?_
    obtain ⟨rfl, rfl⟩ := he
    refine ⟨w.heap.size, List.replicate n 0#8, by simp, hn0, .inr rfl, by rw [List.length_replicate]; exact Nat.le_refl _, by rw [List.length_replicate]; simp only [maxLen]; simp at hl; simp; omega, objAt_alloc_at _ _ _ rfl, (Below.refl _ _).alloc (Nat.le_refl _) _⟩
  · by_cases hroom : n ≤ zs.length
    · have k4 : (t : Int) ≤ ((ds.length + zs.length : Nat) : Int) := by omega
      obtain ⟨q, hq⟩ : ∃ q, q = ds.length + zs.length := ⟨_, rfl⟩
      rw [← hq] at k4
      have hqd : q - ds.length = zs.length := by omega
      have hqn : ¬ q = ds.length := by omega
      rw [← hq]
      have HQ := Lib.hid hq
      have HT := Lib.hid ht
      have H4 := Lib.hid h4
      clear hmk ho hb hq ht h4
      go_enter Tryd.func17, Tryd.ntmps17
      go_wp2_with (fail)
      go_ret2
      rw [HT.out, HQ.out]
      refine ⟨N, zs, ?_, h2, .inl h3, hroom, h5, H4.out, Below.refl _ _⟩
      simp
    · have k4 : ¬ (t : Int) ≤ ((ds.length + zs.length : Nat) : Int) := by omega
      obtain ⟨q, hq⟩ : ∃ q, q = ds.length + zs.length := ⟨_, rfl⟩
      rw [← hq] at k4
      have hr : rowOf 0 ds (.slice (some ⟨N, 0, none⟩) ds.length q) (w.alloc (.cells (bcells (List.replicate t 0#8)).toArray 5)) := by
        have := rowOf_obj (n0 := 0) (c := q) (oa_below h4 hb (oa_lt h4)) (bs := ds) (o := 0) (fun i x hx => by
          rw [Nat.zero_add, tA, bcells_get, List.getElem?_append_left (List.getElem?_eq_some_iff.1 hx).1, hx]; rfl) (Nat.zero_le _) (by omega) (by simp only [maxLen] at h5; omega)
        exact this
      have hcp := run_copyB _ w.heap.size 0 t t _ 5 ds (.slice (some ⟨N, 0, none⟩) ds.length q) 3 ho hr (by rw [List.size_toArray, bcells_length, List.length_replicate]; omega)
      rw [List.take_of_length_le (by omega), ht, put_front, Nat.min_eq_left (by omega), ← ht] at hcp
      have HO := Lib.hid (objAt_alloc_at w (.cells (bcells (ds ++ List.replicate n 0#8)).toArray 5) _ rfl)
      have HBB := Lib.hid ((Below.refl w.heap.size w).alloc (Nat.le_refl _) (.cells (bcells (ds ++ List.replicate n 0#8)).toArray 5))
      rw [← hq]
      have HT := Lib.hid ht
      clear ho hb hr hq h4 ht
      go_enter Tryd.func17, Tryd.ntmps17
      go_wp2_with (fail)
      go_ret2
      refine ⟨w.heap.size, List.replicate n 0#8, ?_, hn0, .inr rfl, by rw [List.length_replicate]; exact Nat.le_refl _, by rw [List.length_replicate]; simp only [maxLen]; omega, HO.out, HBB.out⟩
      rw [List.length_replicate, HT.out]
      simp
end Go.Proofs.YtfcdldcekdbckacDoor
