/- How a law's row is closed: the call returned true, and below the blocks that it made nothing has turned, so each argument reads as it did. -/
import Derived.Test.YtdaebcaokoajjaaWd
import Derived.Test.YtdaebcaokoajjaaHead
import Derived.ProofKit
import Derived.OpenShut
import Derived.SizedLaws
namespace Go.Proofs.Ytdaebcaokoajjaa
open Go.ChangeShapes Go.WideShapes Go.ChangeAt Go.RowKit

theorem own : ownKnob Try.prog.godebug = none := by kernel_rfl
theorem laidOut : laidOutB Try.prog = true := by kernel_rfl

section
variable {H : Type} {enc : TypeId × Value → H} {P : Program}

theorem trodAll_below (hl : laidOutB P = true) {W W' : World} (hb : Below W.heap.size W W') : ∀ (ts : List TypeId) (vs : List Value) (ds : List (DataW H)) (ps : List MemPlace),
    (∀ t ∈ ts, P.readableRec t = true ∧ t < P.types.size) → (∀ x ∈ ps, x.block < W.heap.size) → DataW.TrodAll enc P W 0 (fun _ => true) true ts vs ds ps →
    DataW.TrodAll enc P W' 0 (fun b => decide (b < W.heap.size)) true ts vs ds ps
  | [], [], [], _, _, _, h => h
  | t :: ts, v :: vs, d :: ds, _, hr, hlt, h => by
    obtain ⟨p, q, h1, h2, rfl⟩ := h
    refine ⟨p, q, ?_, ?_, rfl⟩
    · exact Below.trod hl (hr t (by simp)).1 (hr t (by simp)).2 h1 hb (fun x hx => hlt x (by simp [hx]))
    · exact trodAll_below hl hb ts vs ds q (fun t ht => hr t (by simp [ht])) (fun x hx => hlt x (by simp [hx])) h2
  | [], [], _ :: _, _, _, _, h => by exact h.elim
  | [], _ :: _, _, _, _, _, h => by cases h
  | _ :: _, [], _, _, _, _, h => by cases h
  | _ :: _, _ :: _, [], _, _, _, h => by cases h

/-- THE CLOSE OF A LAW: the call has returned true, the arguments read as they did. -/
theorem post_true (hl : laidOutB P = true) {f : Func} {s : ChangeSpec} {W W' : World} {args : Array Value} {ds : List (DataW H)} {before : List MemPlace} {tb : TypeId}
    (hW : DataW.Whole enc P f.params.toList s.vars false W args.toList ds [] before) (hv : s.vars = [])
    (hfn : s.fn H (ds ++ []) = { results := [.lit (.bool true)], args := ds, vars := [] })
    (hrd : ∀ t ∈ f.params.toList, P.readableRec t = true ∧ t < P.types.size) (hrt : f.resultTypes = #[tb]) (hbt : P.underlying tb = some .bool)
    (hb : Below W.heap.size W W') : s.post enc P f false true false false W args (.bool true) W' := by
  have hlt := hW.lt
  obtain ⟨p, q, hA, hV, rfl, hz, hn⟩ := hW
  have hV' := hV
  rw [hv] at hV'
  obtain ⟨_, rfl⟩ := trodVars_none hV'
  refine ⟨ds, [], p ++ [], [], p, [], ⟨p, [], hA, hV, rfl, hz, hn⟩, ?_, ?_, ?_, hb.frame _, fun h => by cases h⟩
  · rw [hfn, hrt]
    exact trodAll_cons_mk (shut_bool hbt true) trodAll_mk0
  · rw [hfn]
    exact trodAll_below hl hb _ _ _ _ hrd (fun x hx => hlt x (by simp [hx])) hA
  · rw [hv, hfn]
    exact rfl
end

theorem open_n32 {a : Int} (h : (Lit.int .u32 a).wf = true) : ∃ x : BitVec 32, a = n32 x := by
  have hx : 0 ≤ a ∧ a ≤ 4294967295 := by simpa [Lit.wf, IntKind.min, IntKind.max, IntKind.signed, IntKind.bits] using h
  exact ⟨_, n32_of a hx.1 hx.2⟩
theorem open_n64 {a : Int} (h : (Lit.int .u64 a).wf = true) : ∃ x : BitVec 64, a = n64 x := by
  have hx : 0 ≤ a ∧ a ≤ 18446744073709551615 := by simpa [Lit.wf, IntKind.min, IntKind.max, IntKind.signed, IntKind.bits] using h
  exact ⟨_, n64_of a hx.1 hx.2⟩
theorem open_n8 {a : Int} (h : (Lit.int .u8 a).wf = true) : ∃ x : BitVec 8, a = n8 x := by
  have hx : 0 ≤ a ∧ a ≤ 255 := by simpa [Lit.wf, IntKind.min, IntKind.max, IntKind.signed, IntKind.bits] using h
  exact ⟨_, n8_of a hx.1 hx.2⟩

/-- The laws' parameters' types can be read. -/
def readTypes : List TypeId := [3, 5, 22, 23, 27, 35, 38]
theorem readTypes_ok : ∀ t ∈ readTypes, Try.prog.readableRec t = true ∧ t < Try.prog.types.size := by
  intro t ht
  have h3 : Try.prog.readableRec 3 = true ∧ 3 < Try.prog.types.size := ⟨by kernel_rfl, of_decide_eq_true (by kernel_rfl)⟩
  have h5 : Try.prog.readableRec 5 = true ∧ 5 < Try.prog.types.size := ⟨by kernel_rfl, of_decide_eq_true (by kernel_rfl)⟩
  have h22 : Try.prog.readableRec 22 = true ∧ 22 < Try.prog.types.size := ⟨by kernel_rfl, of_decide_eq_true (by kernel_rfl)⟩
  have h23 : Try.prog.readableRec 23 = true ∧ 23 < Try.prog.types.size := ⟨by kernel_rfl, of_decide_eq_true (by kernel_rfl)⟩
  have h27 : Try.prog.readableRec 27 = true ∧ 27 < Try.prog.types.size := ⟨by kernel_rfl, of_decide_eq_true (by kernel_rfl)⟩
  have h35 : Try.prog.readableRec 35 = true ∧ 35 < Try.prog.types.size := ⟨by kernel_rfl, of_decide_eq_true (by kernel_rfl)⟩
  have h38 : Try.prog.readableRec 38 = true ∧ 38 < Try.prog.types.size := ⟨by kernel_rfl, of_decide_eq_true (by kernel_rfl)⟩
  simp only [readTypes, List.mem_cons, List.not_mem_nil, or_false] at ht
  rcases ht with rfl | rfl | rfl | rfl | rfl | rfl | rfl <;> assumption
theorem readables {ts : List TypeId} (h : ∀ t ∈ ts, t ∈ readTypes) : ∀ t ∈ ts, Try.prog.readableRec t = true ∧ t < Try.prog.types.size := fun t ht => readTypes_ok t (h t ht)
end Go.Proofs.Ytdaebcaokoajjaa
