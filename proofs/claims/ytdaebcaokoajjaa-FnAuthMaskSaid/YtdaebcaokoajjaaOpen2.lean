/- Bytes, and lists of bytes, that came in, opened. -/
import Derived.Test.YtdaebcaokoajjaaHash
import Derived.Test.YtdaebcaokoajjaaOpen
import Derived.Deep.Matrix
namespace Go.Proofs.Ytdaebcaokoajjaa
open Go Go.ChangeShapes Go.WideShapes Go.ChangeAt Go.RowKit Gf

section
variable {H : Type} {enc : TypeId × Value → H}
theorem rowOf_ints {W : World} (a : Option Addr) (len cap : Nat) (zs : List Int) (h3 : len ≤ cap) (h4 : cap ≤ maxLen) (h5 : zs.length = cap) (h6 : a = none → cap = 0)
    (h7 : ∀ a', a = some a' → ∀ i, i < cap → W.cell? (a'.add i) = some (.int .u8 (zs.getD i 0))) (h8 : ∀ n ∈ zs, (Lit.int .u8 n).wf = true) : rowOf 0 ((zs.take len).map (BitVec.ofInt 8)) (.slice a len cap) W := by
  have hcap : (cap : Int) ≤ 9223372036854775807 := by simp only [maxLen] at h4; omega
  have hl : ((zs.take len).map (BitVec.ofInt 8)).length = len := by simp; omega
  by_cases hp : 0 < zs.length
  · cases a with
    | none => have := h6 rfl; omega
    | some a =>
      obtain ⟨b, o, rfl, hcell⟩ := ints_at (fun i hi => h7 a rfl i (by omega)) hp
      refine ⟨some ⟨b, o, none⟩, cap, by rw [hl], by rw [hl]; exact h3, hcap, .inr ⟨b, o, rfl, Nat.zero_le _, ?_, fun i x hx => ?_⟩⟩
      · have h := hcell 0 hp
        obtain ⟨ob, hob, _⟩ := cells_of_cell h
        exact (Array.getElem?_eq_some_iff.1 hob).1
      · simp only [List.getElem?_map, Option.map_eq_some_iff] at hx
        obtain ⟨z, hz, rfl⟩ := hx
        have hi : i < (zs.take len).length := (List.getElem?_eq_some_iff.1 hz).1
        have hi2 : i < zs.length := by simp at hi; omega
        have hz2 : zs[i]? = some z := by rw [List.getElem?_take] at hz; split at hz; exact hz; cases hz
        rw [hcell i hi2]
        have hzz : zs.getD i 0 = z := by rw [List.getD_eq_getElem?_getD, hz2]; rfl
        rw [hzz]
        have hw := bounds_u8 (h8 z (List.mem_of_getElem? hz2))
        exact congrArg (fun n => some (Value.int .u8 n)) (n8_of z hw.1 hw.2)
  · have e : zs = [] := List.length_eq_zero_iff.1 (by omega)
    subst e
    exact ⟨a, cap, by rw [hl], by rw [hl]; exact h3, hcap, .inl (by simp)⟩
theorem open_bytes {W : World} {base : Nat} {v : Value} {d : DataW H} {p : List MemPlace} (hval : Value.okWide Try.prog W .any base 35 v)
    (h : DataW.Trod enc Try.prog W 0 (fun _ => true) true 35 v d p) : ∃ bs, rowOf 0 bs v W := by
  unfold Value.okWide at hval
  rw [Try.underlying35] at hval
  obtain ⟨fuel, hf⟩ := h
  have c5 : Try.prog.cellsOf 5 = 1 := by kernel_rfl
  have hne : ∀ cs, v ≠ .agg cs := by
    rintro cs rfl
    simp [Cell.okWide, Cell.ok, Try.underlying35] at hval
  have hc : v.cells.toList = [v] := by cases v <;> first | rfl | exact absurd rfl (hne _)
  rw [hc] at hf
  rcases open_ints Try.underlying35 Try.underlying5 c5 hf with ⟨h0, _⟩ | ⟨a, len, cap, zs, h1, _, h3, h4, h5, _, h7, h8⟩
  · have e : v = .slice none 0 0 := by simpa using h0
    exact ⟨[], none, 0, e, by simp, by decide, .inl rfl⟩
  · have e : v = .slice (some a) len cap := by simpa using h1
    simp only [if_true] at h5
    rw [e]
    exact ⟨_, rowOf_ints (some a) len cap zs h3 h4 h5 (fun h => by cases h) (fun a' ha i hi => by
      obtain rfl := Option.some.inj ha
      exact h7 i (by omega)) h8⟩

theorem open_rows {W : World} {base : Nat} {v : Value} {d : DataW H} {p : List MemPlace} (hval : Value.okWide Try.prog W .any base 38 v)
    (h : DataW.Trod enc Try.prog W 0 (fun _ => true) true 38 v d p) : ∃ inp, rowsOf 0 inp v W := by
  unfold Value.okWide at hval
  rw [Try.underlying38] at hval
  obtain ⟨fuel, hf⟩ := h
  have c5 : Try.prog.cellsOf 5 = 1 := by kernel_rfl
  have c35 : Try.prog.cellsOf 35 = 1 := by kernel_rfl
  have hne : ∀ cs, v ≠ .agg cs := by
    rintro cs rfl
    simp [Cell.okWide, Cell.ok, Try.underlying38] at hval
  have hc : v.cells.toList = [v] := by cases v <;> first | rfl | exact absurd rfl (hne _)
  rw [hc] at hf
  rcases Deep.open_int_rows Try.underlying38 Try.underlying35 Try.underlying5 c35 c5 hf with ⟨h0, _⟩ | ⟨a, len, cap, A, L, C, Z, h1, _, h3, h4, _, h7⟩
  · have e : v = .slice none 0 0 := by simpa using h0
    exact ⟨[], none, 0, e, by simp, by decide, .inl rfl⟩
  · have e : v = .slice (some a) len cap := by simpa using h1
    have hcap : (cap : Int) ≤ 9223372036854775807 := by simp only [maxLen] at h4; omega
    have hll : ((List.range len).map fun r => ((Z r).take (L r)).map (BitVec.ofInt 8)).length = len := by simp
    refine ⟨(List.range len).map fun r => ((Z r).take (L r)).map (BitVec.ofInt 8), some a, cap, by rw [e, hll], by rw [hll]; exact h3, hcap, ?_⟩
    by_cases hp : 0 < cap
    · obtain ⟨b, off, spot⟩ := a
      have hspot : spot = none := by simpa [Addr.add] using World.cell?_spot (h7 0 hp).1
      subst hspot
      refine .inr ⟨b, off, rfl, Nat.zero_le _, ?_, fun i bs hi => ?_⟩
      · obtain ⟨ob, hob, _⟩ := cells_of_cell (h7 0 hp).1
        have := (Array.getElem?_eq_some_iff.1 hob).1
        simpa [Addr.add] using this
      · have hil : i < len := by have := (List.getElem?_eq_some_iff.1 hi).1; simpa using this
        obtain ⟨g1, g2, g3, g4, g5, g6, g7⟩ := h7 i (by omega)
        have eb : ((Z i).take (L i)).map (BitVec.ofInt 8) = bs := by simpa [hil] using hi
        refine ⟨_, by rw [← Go.WideShapes.add_plain]; exact g1, ?_⟩
        rw [← eb]
        exact rowOf_ints (A i) (L i) (C i) (Z i) g2 g3 g4 g6 (fun a' ha c hc => (g7 a' ha).2 c hc) g5
    · have hl0 : len = 0 := by omega
      subst hl0
      exact .inl (by simp)
end
end Go.Proofs.Ytdaebcaokoajjaa
