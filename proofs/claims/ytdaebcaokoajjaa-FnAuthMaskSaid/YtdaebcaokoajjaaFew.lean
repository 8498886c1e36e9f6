/- The laws' bounds: few bytes; nothing longer than what the statements speak of. -/
import Derived.Test.YtdaebcaokoajjaaHash
namespace Go.Proofs.Ytdaebcaokoajjaa
open Go Go.RowKit Gf

def total (inp : List (List (BitVec 8))) : Nat := (inp.map List.length).sum
theorem total_take (inp : List (List (BitVec 8))) (k : Nat) (bs : List (BitVec 8)) (h : inp[k]? = some bs) : total (inp.take (k + 1)) = total (inp.take k) + bs.length := by
  unfold total
  rw [List.take_add_one, h]
  simp
theorem total_le (inp : List (List (BitVec 8))) (k : Nat) : total (inp.take k) ≤ total inp := by
  conv => rhs; rw [← List.take_append_drop k inp]
  unfold total
  rw [List.map_append, List.sum_append]
  omega

set_option maxHeartbeats 1000000 in
theorem few_any (inp : List (List (BitVec 8))) (v : Value) (w : World) (hin : rowsOf 0 inp v w) :
    Calls Try.prog 29 #[v] w fun e w' => e = .returned (.bool (decide (total inp ≤ 16384))) ∧ Below w.heap.size w w' := by
  obtain ⟨p, c, rfl, h2, h3, h4⟩ := hin
  have hH := Lib.hid h4
  clear h4
  go_enter Try.func29, Try.ntmps29
  go_wp2
  go_loopw [3, 8] (fun n i wr => ∃ k : Nat, k ≤ inp.length ∧ i = .int .i64 k ∧ n = .int .i64 (total (inp.take k) : Nat) ∧ total (inp.take k) ≤ 16384 ∧ wr = w) (fun _ i _ => inp.length - (intOf i).toNat)
  case atStart => exact ⟨0, by omega, rfl, rfl, by simp [total], rfl⟩
  case round =>
    obtain ⟨k, hk, rfl, rfl, hn, rfl⟩ := hrel
    by_cases hlt : k < inp.length
    · have hlt' : (k : Int) < inp.length := by omega
      obtain ⟨bs, hbsk⟩ : ∃ bs, inp[k]? = some bs := ⟨_, List.getElem?_eq_getElem hlt⟩
      rcases hH.out with h4 | ⟨rb, ro, rfl, _, hrb, hcells⟩
      · rw [h4] at hlt; simp at hlt
      obtain ⟨rv, hc, hrow⟩ := hcells k bs hbsk
      obtain ⟨rp, rc, erv, _, _, _⟩ := hrow
      subst erv
      have ht := total_take inp k bs hbsk
      have hle := total_le inp (k + 1)
      by_cases hb : bs.length ≤ 16384 - total (inp.take k)
      · have hb' : ¬ (16384 - (total (inp.take k) : Int) < bs.length) := by omega
        clear hcells hH
        go_wp2
        go_roundw
        case rel => exact ⟨k + 1, by omega, by go_num, by rw [ht]; go_num, by omega, trivial⟩
        case measure => simp [intOf]; omega
      · have hb' : 16384 - (total (inp.take k) : Int) < bs.length := by omega
        clear hcells hH
        go_wp2
        go_ret
        exact ⟨by rw [decide_eq_false (by omega)]; rfl, Below.refl _ _⟩
    · obtain rfl : k = inp.length := by omega
      rw [List.take_length] at hn
      go_wp2
      go_ret
      exact ⟨by rw [decide_eq_true hn]; rfl, Below.refl _ _⟩

def fitsB (inp : List (List (BitVec 8))) : Bool := decide (inp.length ≤ 2147483647) && inp.all fun bs => decide (bs.length ≤ 2147483647)
theorem fitsB_spec {inp : List (List (BitVec 8))} (h : fitsB inp = true) : inp.length ≤ 2147483647 ∧ ∀ bs ∈ inp, bs.length ≤ 2147483647 := by
  unfold fitsB at h
  simpa using h

set_option maxHeartbeats 1000000 in
theorem fits_any (inp : List (List (BitVec 8))) (v : Value) (w : World) (hin : rowsOf 0 inp v w) :
    Calls Try.prog 32 #[v] w fun e w' => e = .returned (.bool (fitsB inp)) ∧ Below w.heap.size w w' := by
  obtain ⟨p, c, rfl, h2, h3, h4⟩ := hin
  by_cases hlong : inp.length ≤ 2147483647
  · have hl' : ¬ (2147483647 < (inp.length : Int)) := by omega
    have hH := Lib.hid h4
    clear h4
    go_enter Try.func32, Try.ntmps32
    go_wp2
    go_loopw [10] (fun i wr => ∃ k : Nat, k ≤ inp.length ∧ i = .int .i64 k ∧ (∀ j bs, j < k → inp[j]? = some bs → bs.length ≤ 2147483647) ∧ wr = w) (fun i _ => inp.length - (intOf i).toNat)
    case atStart => exact ⟨0, by omega, rfl, fun j bs hj => by omega, rfl⟩
    case round =>
      obtain ⟨k, hk, rfl, hall, rfl⟩ := hrel
      by_cases hlt : k < inp.length
      · have hlt' : (k : Int) < inp.length := by omega
        obtain ⟨bs, hbsk⟩ : ∃ bs, inp[k]? = some bs := ⟨_, List.getElem?_eq_getElem hlt⟩
        rcases hH.out with h4 | ⟨rb, ro, rfl, _, hrb, hcells⟩
        · rw [h4] at hlt; simp at hlt
        obtain ⟨rv, hc, hrow⟩ := hcells k bs hbsk
        obtain ⟨rp, rc, erv, _, _, _⟩ := hrow
        subst erv
        have hA := Lib.hid hall
        by_cases hb : bs.length ≤ 2147483647
        · have hb' : ¬ (2147483647 < (bs.length : Int)) := by omega
          clear hcells hH hall
          go_wp2
          go_roundw
          case rel =>
            refine ⟨k + 1, by omega, by go_num, fun j bs' hj hbs' => ?_, trivial⟩
            by_cases e : j = k
            · subst e
              rw [hbsk] at hbs'
              rw [← Option.some.inj hbs']; exact hb
            · exact hA.out j bs' (by omega) hbs'
          case measure => simp [intOf]; omega
        · have hb' : 2147483647 < (bs.length : Int) := by omega
          have hf : fitsB inp = false := by
            cases h : fitsB inp with
            | false => rfl
            | true => exact absurd ((fitsB_spec h).2 bs (List.mem_of_getElem? hbsk)) hb
          clear hcells hH hall
          go_wp2
          go_ret
          exact ⟨by rw [hf]; rfl, Below.refl _ _⟩
      · obtain rfl : k = inp.length := by omega
        have hf : fitsB inp = true := by
          unfold fitsB
          simp only [Bool.and_eq_true, decide_eq_true_eq, List.all_eq_true]
          refine ⟨hlong, fun bs hbs => ?_⟩
          obtain ⟨j, hj, e⟩ := List.mem_iff_getElem.1 hbs
          exact hall j bs hj (by rw [← e]; exact List.getElem?_eq_getElem hj)
        clear hall
        go_wp2
        go_ret
        exact ⟨by rw [hf]; rfl, Below.refl _ _⟩
  · have hl' : 2147483647 < (inp.length : Int) := by omega
    have hf : fitsB inp = false := by
      cases h : fitsB inp with
      | false => rfl
      | true => exact absurd (fitsB_spec h).1 hlong
    clear h4
    go_enter Try.func32, Try.ntmps32
    go_wp2
    go_ret
    exact ⟨by rw [hf]; rfl, Below.refl _ _⟩
end Go.Proofs.Ytdaebcaokoajjaa
