/- The iterator over the blocks of the inputs: what it yields, block by block. -/
import Derived.Test.YtfcdldcekdbckacDoorRf
import Derived.Test.YtfcdldcekdbckacDoorOwn2
import Derived.TacticsInMore
import Derived.LoopNIn
import Derived.LoopIn
import Derived.OwnWalkIn
import Derived.Laws.CopyRow
import Derived.Deep.MidRow
namespace Go.Proofs.YtfcdldcekdbckacDoor
open Go Go.RowKit Gf
attribute [local go_sem] Oper.semAt_some

/-- Block j of a text of bytes, filled up with zeros. -/
def blkAt (bs : List (BitVec 8)) (j : Nat) : BitVec 128 := ofBytes (fun i => bs.getD (16 * j + i) 0#8)
def nb (n : Nat) : Nat := (n + 15) / 16
def blksOf (bs : List (BitVec 8)) : List (BitVec 128) := (List.range (nb bs.length)).map (blkAt bs)
def seqOf (inp : List (List (BitVec 8))) : List (BitVec 128) := inp.flatMap blksOf

def InAt (Y : Nat) (W : World) (v : Value) (inp : List (List (BitVec 8))) : Prop :=
  ∃ (p : Option Addr) (c : Nat), v = .slice p inp.length c ∧ inp.length ≤ c ∧ (c : Int) ≤ 9223372036854775807 ∧
    (inp = [] ∨ ∃ b o, p = some ⟨b, o, none⟩ ∧ b ≠ Y ∧ b < W.heap.size ∧ ∀ i bs, inp[i]? = some bs → ∃ rv, W.cell? ⟨b, o + i, none⟩ = some rv ∧ RowAt Y W rv bs)
/-- What is yielded: sixteen cells that hold block k. -/
def FitsB (Y : Nat) (S : List (BitVec 128)) (k : Nat) (v : Value) (W : World) : Prop :=
  ∃ b o c x, v = .slice (some ⟨b, o, none⟩) 16 c ∧ 16 ≤ c ∧ (c : Int) ≤ 9223372036854775807 ∧ b ≠ Y ∧ S[k]? = some x ∧ ∀ i, i < 16 → W.cell? ⟨b, o + i, none⟩ = some (.int .u8 (n8 (byte x i)))

theorem RowAt.kept {Y : Nat} {W W' : World} {v : Value} {bs : List (BitVec 8)} (h : RowAt Y W v bs) (hk : Keeps Y W W') : RowAt Y W' v bs := by
  obtain ⟨p, c, h1, h2, h3, h4⟩ := h
  refine ⟨p, c, h1, h2, h3, h4.imp id ?_⟩
  rintro ⟨b, o, h5, h6, h7, h8⟩
  exact ⟨b, o, h5, h6, Nat.lt_of_lt_of_le h7 hk.size, fun i x hx => (hk.cell h7 h6 _).trans (h8 i x hx)⟩

def lenOf : Value → Nat
  | .slice _ n _ => n
  | _ => 0
/-- How many blocks the first r rows give. -/
def cnt (inp : List (List (BitVec 8))) (r : Nat) : Nat := (seqOf (inp.take r)).length
theorem cnt_zero (inp : List (List (BitVec 8))) : cnt inp 0 = 0 := by simp [cnt, seqOf]
theorem cnt_all (inp : List (List (BitVec 8))) : cnt inp inp.length = (seqOf inp).length := by simp [cnt]
theorem cnt_succ (inp : List (List (BitVec 8))) (r : Nat) (bs : List (BitVec 8)) (h : inp[r]? = some bs) : cnt inp (r + 1) = cnt inp r + nb bs.length := by
  unfold cnt seqOf
  rw [List.take_add_one, h]
  simp [blksOf]
theorem seq_at (inp : List (List (BitVec 8))) (r : Nat) (bs : List (BitVec 8)) (h : inp[r]? = some bs) (j : Nat) (hj : j < nb bs.length) : (seqOf inp)[cnt inp r + j]? = some (blkAt bs j) := by
  have hlt : r < inp.length := (List.getElem?_eq_some_iff.1 h).1
  have e : inp = inp.take r ++ bs :: inp.drop (r + 1) := by
    have h1 := List.take_append_drop r inp
    rw [List.drop_eq_getElem_cons hlt] at h1
    have h2 : inp[r] = bs := (List.getElem?_eq_some_iff.1 h).2
    rw [h2] at h1
    exact h1.symm
  have e2 : seqOf inp = seqOf (inp.take r) ++ (blksOf bs ++ seqOf (inp.drop (r + 1))) := by
    conv => lhs; rw [e]
    simp [seqOf]
  rw [e2]
  unfold cnt
  rw [List.getElem?_append_right (by omega), Nat.add_sub_cancel_left, List.getElem?_append_left (by simp [blksOf]; exact hj)]
  simp [blksOf, hj]

set_option maxRecDepth 100000 in
theorem copy_last (wr : World) (b o j cc : Nat) (bs : List (BitVec 8)) (h1 : 16 * j < bs.length) (h2 : bs.length < 16 * j + 16)
    (hcell : ∀ i x, bs[i]? = some x → wr.cell? ⟨b, o + i, none⟩ = some (.int .u8 (n8 x))) (hb : b < wr.heap.size) :
    (Builtin.copy_ #[22, 22] 3 #[.slice (some ⟨wr.heap.size, 0, none⟩) 16 16, .slice (some ⟨b, o + 16 * j, none⟩) (bs.length - 16 * j) (cc - 16 * j)]).run Tryd.prog (wr.alloc (.cells (blk 0#128) 69)) =
      .ok (goInt ((bs.length - 16 * j : Nat) : Int)) (wr.alloc (.cells (blk (blkAt bs j)) 69)) := by
  obtain ⟨m, hm⟩ : ∃ m, bs.length - 16 * j = m := ⟨_, rfl⟩
  have hcs : ((List.range m).map (fun i => Value.int .u8 (n8 (bs.getD (16 * j + i) 0#8)))).length = m := by simp
  have hg : (wr.alloc (.cells (blk 0#128) 69)).heap[wr.heap.size]? = some (.cells (blk 0#128) 69 (0, 0)) := objAt_alloc_at wr (.cells (blk 0#128) 69) _ rfl
  have h := run_copy_row (P := Tryd.prog) (wr.alloc (.cells (blk 0#128) 69)) 22 22 3 5 wr.heap.size 0 16 16 ⟨b, o + 16 * j, none⟩ m (cc - 16 * j) (blk 0#128) 69
    ((List.range m).map (fun i => Value.int .u8 (n8 (bs.getD (16 * j + i) 0#8)))) Tryd.underlying22 (by kernel_rfl) hg (by rw [hcs]; exact (Nat.min_eq_left (by omega)).symm)
    (fun i v hv => by
      have hi : i < m := by have := (List.getElem?_eq_some_iff.1 hv).1; simpa using this
      have hadd : (⟨b, o + 16 * j, none⟩ : Addr).add i = ⟨b, o + 16 * j + i, none⟩ := Addr.add_mid _ _ _
      have hlt : 16 * j + i < bs.length := by omega
      rw [hadd, cell_same (Below.heap_alloc wr _ b hb), Nat.add_assoc, hcell (16 * j + i) _ (List.getElem?_eq_getElem hlt)]
      simp only [List.getElem?_map, List.getElem?_range hi, Option.map_some, Option.some.injEq] at hv
      rw [← hv, List.getD_eq_getElem?_getD, List.getElem?_eq_getElem hlt]; rfl)
    (by rw [hcs, blk_size]; omega) (fun v hv => by obtain ⟨i, _, rfl⟩ := List.mem_map.1 hv; rfl)
  rw [hm, h, hcs]
  congr 1
  rw [setRow_alloc_at _ _ _ _ _ rfl]
  congr 2
  apply Array.ext_getElem?
  intro i
  simp only [List.take_zero, List.nil_append, Nat.zero_add, List.getElem?_toArray]
  by_cases hi : i < 16
  · rw [blk_get _ i hi]
    unfold blkAt
    rw [byte_of _ i hi]
    by_cases him : i < m
    · rw [List.getElem?_append_left (by rw [hcs]; exact him)]
      simp [him]
    · rw [List.getElem?_append_right (by rw [hcs]; omega), hcs, List.getElem?_drop]
      rw [show m + (i - m) = i by omega]
      have e : (blk 0#128).toList[i]? = some (.int .u8 (n8 (byte 0#128 i))) := by
        have := blk_get 0#128 i hi
        simpa using this
      rw [e, byte_zero, List.getD_eq_getElem?_getD, List.getElem?_eq_none (by omega)]; rfl
  · rw [Array.getElem?_eq_none (by rw [blk_size]; omega), List.getElem?_eq_none]
    simp [blk_size]; omega

set_option maxRecDepth 100000 in
set_option maxHeartbeats 2000000 in
theorem iter_in (n l Bx Y : Nat) (inp : List (List (BitVec 8))) (J : Nat → World → Prop) (W : World) (iv : Value)
    (hst : ∀ k A B, J k A → Below W.heap.size A B → J k B)
    (hY : ∀ k v A, J k A → k < (seqOf inp).length → FitsB Y (seqOf inp) k v A → YieldAt Fence.wide (n - 1) Tryd.prog l #[v] A (fun e B => e = .returned (.bool true) ∧ J (k + 1) B ∧ Keeps Y A B))
    (hbox : W.cell? ⟨Bx, 0, none⟩ = some iv) (hin : InAt Y W iv inp) (h0 : J 0 W) (hYlt : Y < W.heap.size) :
    CallsIn Fence.wide n Tryd.prog 43 #[.func (.yield l) #[] #[], .pointer (some ⟨Bx, 0, none⟩)] W (fun e W' => (∃ v, e = .returned v) ∧ J (seqOf inp).length W') := by
  obtain ⟨p, c, rfl, hc1, hc2, hrows⟩ := hin
  have hR : (inp.length : Int) ≤ 9223372036854775807 := by omega
  refine callsIn_of_wp Tryd.func43 rfl trivial ?_ rfl
  simp only [Tryd.ntmps43, List.size_toArray, List.length_cons, List.length_nil, Nat.reduceAdd, Nat.reduceSub, Array.replicate_succ, Array.replicate_zero, List.push_toArray, List.append_toArray, List.nil_append, List.cons_append]
  gi_wp2
  gi_loopw [8] (fun i wr => ∃ r : Nat, r ≤ inp.length ∧ i = .int .i64 r ∧ J (cnt inp r) wr ∧ Keeps Y W wr) (fun i _ => inp.length - (intOf i).toNat)
  case atStart => exact ⟨0, by omega, rfl, by rw [cnt_zero]; exact h0, Keeps.refl _ _⟩
  case round =>
    obtain ⟨r, hr, rfl, hJ, hK⟩ := hrel
    by_cases hlt : r < inp.length
    · have hlt' : (r : Int) < inp.length := by omega
      rcases hrows with rfl | ⟨rb, ro, rfl, hrY, hrW, hcells⟩
      · simp at hlt
      obtain ⟨bs, hbs⟩ : ∃ bs, inp[r]? = some bs := ⟨_, List.getElem?_eq_getElem hlt⟩
      obtain ⟨rv, hrv, hrow⟩ := hcells r bs hbs
      have hrv' := (hK.cell hrW hrY (ro + r)).trans hrv
      obtain ⟨q, cc, rfl, hl1, hl2, hq⟩ := hrow
      by_cases hnil : bs = []
      · subst hnil
        have hc := cnt_succ inp r [] hbs
        gi_wp2
        gi_loopw [4] (fun s wr2 => s = .slice q 0 cc ∧ wr2 = wr) (fun _ _ => 0)
        case atStart => exact ⟨rfl, rfl⟩
        case round =>
          obtain ⟨rfl, rfl⟩ := hrel
          gi_wp2
          go_roundw
          case rel => exact ⟨r + 1, by omega, by go_num, by rw [hc]; simpa [nb] using hJ, hK⟩
          case measure => simp [intOf]; omega
      · rcases hq with hq | ⟨b, o, rfl, hbY, hbW, hcell⟩
        · exact absurd hq hnil
        have hc := cnt_succ inp r bs hbs
        gi_wp2
        gi_loopw [4] (fun s wr2 => ∃ j : Nat, 16 * j ≤ bs.length ∧ (∃ pp, s = .slice pp (bs.length - 16 * j) (cc - 16 * j) ∧ (16 * j < bs.length → pp = some ⟨b, o + 16 * j, none⟩)) ∧ J (cnt inp r + j) wr2 ∧ Keeps Y W wr2) (fun s _ => lenOf s)
        case atStart => exact ⟨0, by omega, ⟨_, rfl, fun _ => rfl⟩, hJ, hK⟩
        case round =>
          clear hJ hK hrv'
          obtain ⟨j, hj, ⟨pp, rfl, hpp⟩, hJ, hK⟩ := hrel
          by_cases h16 : 16 * j + 16 ≤ bs.length
          · obtain rfl := hpp (by omega)
            have e1 : (16 : Int) ≤ ((bs.length - 16 * j : Nat) : Int) := by omega
            have e2 : (16 : Int) ≤ ((cc - 16 * j : Nat) : Int) := by omega
            have hjn : j < nb bs.length := by unfold nb; omega
            obtain ⟨fn, tmps, assign, body, hy, hR⟩ := hY (cnt inp r + j) (.slice (some ⟨b, o + 16 * j, none⟩) 16 (cc - 16 * j)) _ hJ (by
                have := (List.getElem?_eq_some_iff.1 (seq_at inp r bs hbs j hjn)).1; omega)
              ⟨b, o + 16 * j, cc - 16 * j, blkAt bs j, rfl, by omega, by omega, hbY, seq_at inp r bs hbs j hjn, fun i hi => by
                rw [hK.cell hbW hbY, Nat.add_assoc, hcell (16 * j + i) _ (List.getElem?_eq_getElem (by omega : 16 * j + i < bs.length))]
                unfold blkAt
                rw [byte_of _ i hi, List.getD_eq_getElem?_getD, List.getElem?_eq_getElem (by omega : 16 * j + i < bs.length)]; rfl⟩
            gi_wp2
            refine ⟨fun h => by simp [Fence.wide] at h, hR.mono ?_⟩
            rintro e W3 ⟨rfl, hJ3, hk3⟩
            gi_wp2
            go_roundw
            case rel =>
              refine ⟨j + 1, by omega, ⟨_, by rw [show bs.length - 16 * j - 16 = bs.length - 16 * (j + 1) by omega, show cc - 16 * j - 16 = cc - 16 * (j + 1) by omega], fun hlt2 => ?_⟩, hJ3, hK.trans hk3⟩
              rw [if_neg (by omega), show o + 16 * j + 16 = o + 16 * (j + 1) by omega]
            case measure => simp [lenOf]; omega
          · by_cases h0' : bs.length = 16 * j
            · have e0 : bs.length - 16 * j = 0 := by omega
              have hn : nb bs.length = j := by unfold nb; omega
              rw [e0]
              gi_wp2
              go_roundw
              case rel => exact ⟨r + 1, by omega, by go_num, by rw [hc, hn]; exact hJ, hK⟩
              case measure => simp [intOf]; omega
            · obtain rfl := hpp (by omega)
              have e1 : ¬ (16 : Int) ≤ ((bs.length - 16 * j : Nat) : Int) := by omega
              have e2 : 0 < bs.length - 16 * j := by omega
              have hn : nb bs.length = j + 1 := by unfold nb; omega
              have hcopy := copy_last wr b o j cc bs (by omega) (by omega) (fun i x hx => (hK.cell hbW hbY _).trans (hcell i x hx)) (by have := hK.size; omega)
              have hJ' := hst _ _ (wr.alloc (.cells (blk (blkAt bs j)) 69)) hJ ((Below.refl _ _).alloc hK.size _)
              have hK' : Keeps Y W (wr.alloc (.cells (blk (blkAt bs j)) 69)) := hK.alloc hYlt _
              have hnew : objAt (wr.alloc (.cells (blk (blkAt bs j)) 69)) wr.heap.size = some (.cells (blk (blkAt bs j)) 69 (0, 0)) := objAt_alloc_at _ _ _ rfl
              obtain ⟨fn, tmps, assign, body, hy, hR⟩ := hY (cnt inp r + j) (.slice (some ⟨wr.heap.size, 0, none⟩) 16 16) _ hJ' (by
                  have := (List.getElem?_eq_some_iff.1 (seq_at inp r bs hbs j (by omega))).1; omega)
                ⟨wr.heap.size, 0, 16, blkAt bs j, rfl, by omega, by omega, by have := hK.size; omega, seq_at inp r bs hbs j (by omega), fun i hi => by
                  rw [Nat.zero_add, objAt_cell hnew i, blk_get _ i hi]⟩
              gi_wp2
              refine ⟨fun h => by simp [Fence.wide] at h, hR.mono ?_⟩
              rintro e W3 ⟨rfl, hJ3, hk3⟩
              gi_wp2
              go_roundw
              case rel => exact ⟨r + 1, by omega, by go_num, by rw [hc, hn]; exact hJ3, hK'.trans hk3⟩
              case measure => simp [intOf]; omega
    · obtain rfl : r = inp.length := by omega
      gi_wp2
      refine bodyPost_end (results_none rfl _ _ _) rfl ⟨⟨_, rfl⟩, ?_⟩
      rw [← cnt_all]; exact hJ
end Go.Proofs.YtfcdldcekdbckacDoor
