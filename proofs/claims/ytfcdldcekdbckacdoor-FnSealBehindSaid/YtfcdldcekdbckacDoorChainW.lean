/- The same in a fenced walk outside a round. -/
import Derived.Test.YtfcdldcekdbckacDoorChainIn
namespace Go
open Go.RowKit
section
variable {P : Program} {ops : Array Oper} {Q : Exit → Act → World → Prop} {B : World → Prop} {n : Nat}
theorem YieldsIf.wpOpWide (hd : deferFreeB ops = true) {i : Nat} {o : Oper} {v : Value} {a : Act} (hi : ops[i]? = some o) (hy : YieldsIf P ops B o v a)
    {K : Act → World → Prop} {w : World} (hB : B w) (h : K (a.put o.dst v) w) : wpOpIn Fence.wide n P ops Q i K a w := by
  unfold Go.wpOpIn
  simp only [hi]
  rcases hy with ⟨hw, hv⟩ | ⟨hw, rfl⟩
  · simp only [hw, if_true, Oper.wpIn, Oper.semAt_eq _ _ _ (deferFree_spec hd hi), hv w hB, Oper.uponIn]
    exact ⟨fun _ _ => trivial, h⟩
  · simp only [hw, Bool.false_eq_true, if_false]
    exact ⟨fun _ _ => trivial, h⟩

theorem LeadC.wpOpWide (hd : deferFreeB ops = true) {i : Nat} {o : Oper} {v : Value} {a : Act} {w : World} {K : Act → World → Prop} {S S' : World → Prop} (hi : ops[i]? = some o) (hl : LeadC P ops S S' o v a) (hS : S w)
    (h : ∀ w', S' w' → K (a.put o.dst v) w') : wpOpIn Fence.wide n P ops Q i K a w := by
  unfold Go.wpOpIn
  obtain ⟨hw, hv⟩ := hl
  simp only [hi, hw, if_true, Oper.wpIn, Oper.semAt_eq _ _ _ (deferFree_spec hd hi)]
  refine ⟨fun _ _ => trivial, ?_⟩
  have h1 := hv w hS
  generalize (execOp a.eval o).run P w = res at h1
  match res, h1 with
  | .ok (.value u) w', h1 => obtain ⟨rfl, h2⟩ := h1; exact h w' h2
  | .ok .skip w', h1 => obtain ⟨rfl, h2⟩ := h1; exact h w' h2
  | .ok (.enter f args) w', h1 =>
    simp only [Oper.uponIn]
    refine ⟨fun h0 => by simp [Fence.wide] at h0, CallsIn.mono (callsIn_wide.2 h1) fun e w'' he => ?_⟩
    obtain ⟨rfl, h2⟩ := he
    exact h w'' h2

/-- THE BEGINNING, in a fenced walk. -/
theorem wpWide_region_chain {id : Nat} {a : Act} {w : World} {l : List Oper} (B S : World → Prop) (hm : P.follows .mixedOrders = true) (hB : (chainB .any l.toArray && deferFreeB l.toArray) = true) (hS : S w.drew) (hSB : ∀ w, S w → B w)
    (h : ChainO P l.toArray (Q .normal) B l a S) : (Code.region id l.toArray true).wpIn Fence.wide n P Q a w := by
  unfold chainB at hB
  simp only [Bool.and_eq_true] at hB
  obtain ⟨⟨⟨h1, h2⟩, h3⟩, hd⟩ := hB
  have h' := chainL_of_O (ops := l.toArray) l 0 a S (fun j _ => by simp) h
  rw [← List.range_eq_range'] at h'
  exact wpIn_region_any hm (wpAnyIn_of_G _ _ _ _ (chain_any (fun i o v a w K hi hy hb hk => hy.wpOpWide hd hi hb hk) (fun i o v a w K S S' hi hl hs hk => hl.wpOpWide hd hi hs hk)
    h1 (selFree_spec h2) h3 l.toArray.size (List.range l.length) _ a _ S (by simp) (by simp) (listed0 l) List.pairwise_lt_range hSB hS h'))
end
end Go
