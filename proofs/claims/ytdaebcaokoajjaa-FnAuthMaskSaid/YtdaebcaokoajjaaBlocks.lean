/- The reference's blocks of a text, the last one filled up with zeros. -/
import Derived.Test.YtdaebcaokoajjaaFew
import Derived.Test.YtdaebcaokoajjaaNoth
namespace Go.Proofs.Ytdaebcaokoajjaa
open Go Go.RowKit Gf

theorem info33 : ∃ i, Try.prog.info? 33 = some i ∧ i.size = 16 ∧ i.bytes = 16 ∧ i.zero = some (.agg (blk 0#128)) := by
  have h : (Try.prog.info? 33).map (fun i => (i.size, i.bytes)) = some (16, 16) := by kernel_rfl
  have h2 : (Try.prog.info? 33).map (fun i => i.zero) = some (some (.agg zeroL.toArray)) := by kernel_rfl
  rw [zero_blk] at h2
  cases hq : Try.prog.info? 33 with
  | none => rw [hq] at h; cases h
  | some i =>
    rw [hq] at h h2
    have h' := Option.some.inj h
    simp only [Prod.mk.injEq] at h'
    exact ⟨i, rfl, h'.1, h'.2, Option.some.inj h2⟩

/-- The cells of the blocks, k bytes laid. -/
def fillC (bs : List (BitVec 8)) (k N : Nat) : Array Value := ((List.range N).map fun t => Value.int .u8 (n8 (if t < k then bs.getD t 0#8 else 0#8))).toArray
theorem fillC_get (bs : List (BitVec 8)) (k N t : Nat) (h : t < N) : (fillC bs k N)[t]? = some (.int .u8 (n8 (if t < k then bs.getD t 0#8 else 0#8))) := by simp [fillC, h]
theorem fillC_size (bs : List (BitVec 8)) (k N : Nat) : (fillC bs k N).size = N := by simp [fillC]
theorem fillC_set (bs : List (BitVec 8)) (k N : Nat) (x : BitVec 8) (hx : bs[k]? = some x) (hk : k < N) : (fillC bs k N).setIfInBounds k (.int .u8 (n8 x)) = fillC bs (k + 1) N := by
  apply Array.ext_getElem?
  intro t
  by_cases ht : t < N
  · rw [fillC_get _ _ _ _ ht]
    by_cases e : k = t
    · subst e
      rw [Array.getElem?_setIfInBounds_self_of_lt (by rw [fillC_size]; exact hk), if_pos (by omega), List.getD_eq_getElem?_getD, hx]; rfl
    · rw [Array.getElem?_setIfInBounds_ne e, fillC_get _ _ _ _ ht]
      by_cases h : t < k
      · rw [if_pos h, if_pos (by omega)]
      · rw [if_neg h, if_neg (by omega)]
  · rw [Array.getElem?_eq_none (by simp [fillC_size]; omega), Array.getElem?_eq_none (by simp [fillC_size]; omega)]
theorem made_fill (bs : List (BitVec 8)) (n : Nat) : madeCells (Value.agg (blk 0#128)).cells (n * 16) = fillC bs 0 (n * 16) := by
  apply Array.ext_getElem?
  intro t
  by_cases ht : t < n * 16
  · rw [fillC_get _ _ _ _ ht, if_neg (by omega)]
    have hc : (Value.agg (blk 0#128)).cells = blk 0#128 := rfl
    unfold madeCells
    rw [hc]
    have hm : t % 16 < 16 := Nat.mod_lt _ (by decide)
    have hg := blk_get 0#128 (t % 16) hm
    rw [byte_zero] at hg
    rw [Array.getElem?_eq_getElem (by rw [blk_size]; exact hm)] at hg
    have hg' := Option.some.inj hg
    simp [ht, blk_size, hm, hg']
  · rw [Array.getElem?_eq_none (by rw [size_madeCells]; omega), Array.getElem?_eq_none (by rw [fillC_size]; omega)]
theorem run_make33 (w : World) (bs : List (BitVec 8)) (n : Nat) (hn : n ≤ 268435456) :
    (Instr.makeSlice 61 (.int .i64 (n : Int)) (.int .i64 (n : Int))).run Try.prog w = .ok (.slice (some ⟨w.heap.size, 0, none⟩) n n) (w.alloc (.cells (fillC bs 0 (n * 16)) 33)) := by
  obtain ⟨i, hi, hs, hb, hz⟩ := info33
  have h := run_make (P := Try.prog) w 61 33 i _ Try.underlying61 hi hz .i64 .i64 n n (by omega) (Int.le_refl _) (by rw [hb]; omega) (by omega)
  rw [hs, Int.toNat_natCast, made_fill bs n] at h
  exact h

set_option maxHeartbeats 1000000 in
theorem blocks_any (bs : List (BitVec 8)) (v : Value) (w : World) (h : rowOf 0 bs v w) (hlen : bs.length ≤ 2147483647) :
    Calls Try.prog 48 #[v] w fun e w' => ∃ N, e = .returned (.slice (some ⟨N, 0, none⟩) (nb bs.length) (nb bs.length)) ∧ w.heap.size ≤ N ∧ objAt w' N = some (.cells (fillC bs bs.length (nb bs.length * 16)) 33 (0, 0)) ∧ Below w.heap.size w w' := by
  obtain ⟨p, c, rfl, h2, h3, h4⟩ := h
  have hmk := run_make33 w bs (nb bs.length) (by unfold nb; omega)
  have e1 : ((bs.length : Int) + 15) / 16 = (nb bs.length : Int) := by unfold nb; omega
  have hnb : bs.length ≤ nb bs.length * 16 := by unfold nb; omega
  have hH := Lib.hid h4
  clear h4
  go_enter Try.func48, Try.ntmps48
  go_wp2
  clear hmk e1
  go_loopw [13] (fun i wr => ∃ k : Nat, k ≤ bs.length ∧ i = .int .i64 k ∧ objAt wr w.heap.size = some (.cells (fillC bs k (nb bs.length * 16)) 33 (0, 0)) ∧ Below w.heap.size w wr) (fun i _ => bs.length - (intOf i).toNat)
  case atStart => exact ⟨0, by omega, rfl, objAt_alloc_at _ _ _ rfl, (Below.refl _ _).alloc (Nat.le_refl _) _⟩
  case round =>
    obtain ⟨k, hk, rfl, ho, hb⟩ := hrel
    by_cases hlt : k < bs.length
    · have hlt' : (k : Int) < bs.length := by omega
      obtain ⟨x, hx⟩ : ∃ x, bs[k]? = some x := ⟨_, List.getElem?_eq_getElem hlt⟩
      rcases hH.out with h4 | ⟨rb, ro, rfl, _, hrb, hcells⟩
      · rw [h4] at hlt; simp at hlt
      have hc : wr.cell? ⟨rb, ro + k, none⟩ = some (.int .u8 (n8 x)) := (cell_same (hb.block rb hrb) _).trans (hcells k x hx)
      have ek : k / 16 * 16 + k % 16 = k := by omega
      have f1 : wr.frozen? ⟨w.heap.size, k / 16 * 16 + k % 16, none⟩ = false := objAt_free ho _
      have c1 : wr.cell? ⟨w.heap.size, k / 16 * 16 + k % 16, none⟩ = some (.int .u8 (n8 0#8)) := by
        rw [ek]
        have := (objAt_cell ho k).trans (fillC_get _ _ _ _ (by omega))
        rwa [if_neg (Nat.lt_irrefl k)] at this
      have hset : ∀ W : World, W.setCell ⟨w.heap.size, k / 16 * 16 + k % 16, none⟩ (.int .u8 (n8 x)) = W.setCell ⟨w.heap.size, k, none⟩ (.int .u8 (n8 x)) := fun W => by rw [ek]
      have k1 : (k : Int) / 16 < (nb bs.length : Int) := by unfold nb; omega
      have k2 : k / 16 < nb bs.length := by unfold nb; omega
      have hset' := Lib.hid hset
      have hek := Lib.hid ek
      have hB := Lib.hid hb
      clear hb hcells hH hset ek
      go_wp2
      go_roundw
      case rel =>
        rw [hset'.out]
        have h := objAt_set ho k (.int .u8 (n8 x))
        rw [fillC_set bs k _ x hx (by omega)] at h
        exact ⟨k + 1, by omega, by go_num, h, hB.out.setCell (p := ⟨w.heap.size, k, none⟩) (Nat.le_refl _) _⟩
      case measure => simp [intOf]; omega
    · obtain rfl : k = bs.length := by omega
      have hB := Lib.hid hb
      clear hb
      go_wp2
      go_ret
      exact ⟨w.heap.size, rfl, Nat.le_refl _, ho, hB.out⟩
end Go.Proofs.Ytdaebcaokoajjaa
