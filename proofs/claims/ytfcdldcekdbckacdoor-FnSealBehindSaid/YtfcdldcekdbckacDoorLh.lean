/- The laws' helpers: whether there is such a key, whether bytes are few, whether they are the same; rows of rows. -/
import Derived.Test.YtfcdldcekdbckacDoorOwn2
import Derived.Laws.BytesString
import Derived.Handy
import Derived.BigQuiet
import Derived.StillTailTactics
import Derived.IntWalk
namespace Go.Proofs.YtfcdldcekdbckacDoor
open Go Go.RowKit Gf

/-- A slice of slices of bytes that hold inp. -/
def rowsOf (n0 : Nat) (inp : List (List (BitVec 8))) : Value → World → Prop := fun v W =>
  ∃ (p : Option Addr) (c : Nat), v = .slice p inp.length c ∧ inp.length ≤ c ∧ (c : Int) ≤ 9223372036854775807 ∧
    (inp = [] ∨ ∃ b o, p = some ⟨b, o, none⟩ ∧ n0 ≤ b ∧ b < W.heap.size ∧ ∀ i bs, inp[i]? = some bs → ∃ rv, W.cell? ⟨b, o + i, none⟩ = some rv ∧ rowOf n0 bs rv W)
theorem stab_rowsOf (n0 : Nat) (inp : List (List (BitVec 8))) : Stab (rowsOf n0 inp) := by
  rintro v w w' hb ⟨p, c, h1, h2, h3, h4⟩
  refine ⟨p, c, h1, h2, h3, h4.imp id ?_⟩
  rintro ⟨b, o, h5, h6, h7, h8⟩
  refine ⟨b, o, h5, h6, Nat.lt_of_lt_of_le h7 hb.size, fun i bs hi => ?_⟩
  obtain ⟨rv, g1, g2⟩ := h8 i bs hi
  exact ⟨rv, (cell_same (hb.block b h7) _).trans g1, stab_rowOf _ _ _ _ _ hb g2⟩
/-- Rows in a block just made. -/
theorem rowsOf_mk {n0 N : Nat} {vs : List Value} {inp : List (List (BitVec 8))} {t : TypeId} {w : World} (hN : objAt w N = some (.cells vs.toArray t (0, 0))) (hn : n0 ≤ N) (hl2 : (inp.length : Int) ≤ 9223372036854775807)
    (h : ∀ (i : Nat) (bs : List (BitVec 8)), inp[i]? = some bs → ∃ rv : Value, vs[i]? = some rv ∧ rowOf n0 bs rv w) : rowsOf n0 inp (.slice (some ⟨N, 0, none⟩) inp.length inp.length) w := by
  refine ⟨_, _, rfl, Nat.le_refl _, hl2, .inr ⟨N, 0, rfl, hn, oa_lt hN, fun i bs hi => ?_⟩⟩
  obtain ⟨rv, h1, h2⟩ := h i bs hi
  exact ⟨rv, by rw [Nat.zero_add, objAt_cell hN, tA]; exact h1, h2⟩
def total (inp : List (List (BitVec 8))) : Nat := (inp.map List.length).sum
theorem total_take (inp : List (List (BitVec 8))) (k : Nat) (bs : List (BitVec 8)) (h : inp[k]? = some bs) : total (inp.take (k + 1)) = total (inp.take k) + bs.length := by
  unfold total
  rw [List.take_add_one, h]
  simp
theorem total_le (inp : List (List (BitVec 8))) (k : Nat) : total (inp.take k) ≤ total inp := by
  conv => rhs; rw [← List.take_append_drop k inp]
  unfold total
  rw [List.map_append, List.sum_append]
  omega

set_option maxHeartbeats 1000000 in
theorem few_any (inp : List (List (BitVec 8))) (v : Value) (w : World) (hin : rowsOf 0 inp v w) :
    Calls Tryd.prog 6 #[v] w fun e w' => e = .returned (.bool (decide (total inp ≤ 16384))) ∧ Below w.heap.size w w' := by
  obtain ⟨p, c, rfl, h2, h3, h4⟩ := hin
  have hH := Lib.hid h4
  clear h4
  go_enter Tryd.func6, Tryd.ntmps6
  go_wp2
  go_loopw [3, 8] (fun n i wr => ∃ k : Nat, k ≤ inp.length ∧ i = .int .i64 k ∧ n = .int .i64 (total (inp.take k) : Nat) ∧ total (inp.take k) ≤ 16384 ∧ wr = w) (fun _ i _ => inp.length - (intOf i).toNat)
  case atStart => exact ⟨0, by omega, rfl, rfl, by simp [total], rfl⟩
  case round =>
    obtain ⟨k, hk, rfl, rfl, hn, rfl⟩ := hrel
    by_cases hlt : k < inp.length
    · have hlt' : (k : Int) < inp.length := by omega
      obtain ⟨bs, hbsk⟩ : ∃ bs, inp[k]? = some bs := ⟨_, List.getElem?_eq_getElem hlt⟩
      rcases hH.out with h4 | ⟨rb, ro, rfl, _, hrb, hcells⟩
      · rw [h4] at hlt; simp at hlt
      obtain ⟨rv, hc, hrow⟩ := hcells k bs hbsk
      obtain ⟨rp, rc, erv, _, _, _⟩ := hrow
      subst erv
      have ht := total_take inp k bs hbsk
      have hle := total_le inp (k + 1)
      by_cases hb : bs.length ≤ 16384 - total (inp.take k)
      · have hb' : ¬ (16384 - (total (inp.take k) : Int) < bs.length) := by omega
        clear hcells hH
        go_wp2
        go_roundw
        case rel => exact ⟨k + 1, by omega, by go_num, by rw [ht]; go_num, by omega, trivial⟩
        case measure => simp [intOf]; omega
      · have hb' : 16384 - (total (inp.take k) : Int) < bs.length := by omega
        clear hcells hH
        go_wp2
        go_ret
        exact ⟨by rw [decide_eq_false (by omega)]; rfl, Below.refl _ _⟩
    · obtain rfl : k = inp.length := by omega
      rw [List.take_length] at hn
      go_wp2
      go_ret
      exact ⟨by rw [decide_eq_true hn]; rfl, Below.refl _ _⟩

/-- Whether a key has sixteen, twenty-four or thirty-two bytes. -/
def keyB (n : Nat) : Bool := decide (n = 16 ∨ n = 24 ∨ n = 32)
set_option maxHeartbeats 1000000 in
theorem isKey_any (bs : List (BitVec 8)) (v : Value) (w : World) (h : rowOf 0 bs v w) :
    Calls Tryd.prog 4 #[v] w fun e w' => e = .returned (.bool (keyB bs.length)) ∧ Below w.heap.size w w' := by
  obtain ⟨p, c, rfl⟩ := h.slice
  clear h
  generalize bs.length = n
  by_cases h1 : n = 16
  · subst h1
    go_enter Tryd.func4, Tryd.ntmps4
    go_wp2
    go_ret
    exact ⟨rfl, Below.refl _ _⟩
  · by_cases h2 : n = 24
    · subst h2
      go_enter Tryd.func4, Tryd.ntmps4
      go_wp2
      go_ret
      exact ⟨rfl, Below.refl _ _⟩
    · by_cases h3 : n = 32
      · subst h3
        go_enter Tryd.func4, Tryd.ntmps4
        go_wp2
        go_ret
        exact ⟨rfl, Below.refl _ _⟩
      · have k1 : ((n : Int) == 16) = false := by simp; omega
        have k2 : ((n : Int) == 24) = false := by simp; omega
        have k3 : ((n : Int) == 32) = false := by simp; omega
        have hk := Lib.hid (show keyB n = false by unfold keyB; simp [h1, h2, h3])
        clear h1 h2 h3
        go_enter Tryd.func4, Tryd.ntmps4
        go_wp2
        go_ret
        rw [hk.out]
        exact ⟨rfl, Below.refl _ _⟩

/-- The text of some bytes. -/
def strOf (bs : List (BitVec 8)) : ByteArray := (bs.map n8).foldl (fun r n => r.push (UInt8.ofNat n.toNat)) ByteArray.empty
theorem run_text (n0 : Nat) (bs : List (BitVec 8)) (v : Value) (w : World) (h : rowOf n0 bs v w) : (convert 22 9 v).run Tryd.prog w = .ok (.string (strOf bs)) w := by
  obtain ⟨p, c, rfl, h2, h3, h4⟩ := h
  rw [run_convert_bytes_string w 22 9 5 p bs.length c Tryd.underlying22 Tryd.underlying5 Tryd.underlying9]
  by_cases hbs : bs = []
  · subst hbs
    cases p with
    | none => simp [Conv.bytesToString, strOf]
    | some a => exact run_bytesToString w a 0 c [] (by simp [loadCells, loadCellsFrom])
  · obtain ⟨b, o, rfl, h5, h6, h7⟩ := h4.resolve_left hbs
    have hl := run_loadCells_list (P := Tryd.prog) w ⟨b, o, none⟩ (bcells bs) (fun j u hj => by
      rw [bcells_get] at hj
      obtain ⟨x, hx, rfl⟩ := Option.map_eq_some_iff.1 hj
      rw [Addr.add_mid]
      exact h7 j x hx)
    have hlen : (bcells bs).length = bs.length := by simp [bcells]
    rw [hlen] at hl
    have e : bcells bs = (bs.map n8).map (Value.int .u8) := by simp [bcells]
    rw [e] at hl
    exact run_bytesToString w ⟨b, o, none⟩ bs.length c (bs.map n8) hl
set_option maxHeartbeats 1000000 in
theorem same_any (bs : List (BitVec 8)) (v u : Value) (w : World) (h : rowOf 0 bs v w) (h' : rowOf 0 bs u w) :
    Calls Tryd.prog 9 #[v, u] w fun e w' => e = .returned (.bool true) ∧ Below w.heap.size w w' := by
  have t0 := run_text 0 bs v w h
  have t1 := run_text 0 bs u w h'
  obtain ⟨vp, vc, rfl⟩ := h.slice
  obtain ⟨up, uc, rfl⟩ := h'.slice
  clear h h'
  go_enter Tryd.func9, Tryd.ntmps9
  go_wp2
  go_ret
  exact ⟨rfl, Below.refl _ _⟩
end Go.Proofs.YtfcdldcekdbckacDoor
