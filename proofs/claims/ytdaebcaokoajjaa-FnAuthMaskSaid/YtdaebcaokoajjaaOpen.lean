/- What came in, opened: a block of sixteen bytes. And the comparison of two blocks. -/
import Derived.Test.YtdaebcaokoajjaaBlk
import Derived.Test.YtdaebcaokoajjaaClose
namespace Go.Proofs.Ytdaebcaokoajjaa
open Go.ChangeShapes Go.WideShapes Go.ChangeAt Go.RowKit Gf

section
variable {H : Type} {enc : TypeId × Value → H}
theorem open_b16 {W : World} {base : Nat} {v : Value} {d : DataW H} {p : List MemPlace} (hval : Value.okWide Try.prog W .any base 27 v)
    (h : DataW.Trod enc Try.prog W 0 (fun _ => true) true 27 v d p) : ∃ x, v = .agg (blk x) := by
  unfold Value.okWide at hval
  rw [Try.underlying27] at hval
  obtain ⟨cs, rfl, hsz, _⟩ := hval
  obtain ⟨fuel, hf⟩ := h
  obtain ⟨xs, m, _, ex, hlen, hl, hel⟩ := DataW.trod_array Try.underlying27 hf
  have c5 : Try.prog.cellsOf 5 = 1 := by kernel_rfl
  have ct : Try.prog.cellsOf 27 = 16 := by kernel_rfl
  rw [ct] at hsz
  let f : Nat → BitVec 8 := fun i => match cs[i]? with
    | some (.int .u8 z) => BitVec.ofInt 8 z
    | _ => 0#8
  have key : ∀ i, i < 16 → cs[i]? = some (.int .u8 (n8 (f i))) := by
    intro i hi
    have hE := hel i hi
    rw [c5, Nat.mul_one, List.getElem?_eq_getElem (by omega)] at hE
    obtain ⟨z, e1, e2, hw⟩ := DataW.trod_int Try.underlying5 hE
    have hz : 0 ≤ z ∧ z ≤ 255 := by simpa [Lit.wf, IntKind.min, IntKind.max, IntKind.signed, IntKind.bits] using hw
    have e3 : cs[i]? = some (.int .u8 z) := by
      have h0 : (((Value.agg cs).cells.toList.drop i).take 1)[0]? = some (.int .u8 z) := by rw [e1]; rfl
      simpa [Value.cells] using h0
    have e4 : f i = BitVec.ofInt 8 z := by simp only [f]; rw [e3]
    rw [e3, e4]
    exact congrArg (fun n => some (Value.int .u8 n)) (n8_of z hz.1 hz.2)
  refine ⟨ofBytes f, congrArg Value.agg (Array.ext_getElem? fun i => ?_)⟩
  by_cases hi : i < 16
  · rw [key i hi, blk_get _ i hi, byte_of f i hi]
  · rw [Array.getElem?_eq_none (by omega), Array.getElem?_eq_none (by rw [blk_size]; omega)]
end
end Go.Proofs.Ytdaebcaokoajjaa
