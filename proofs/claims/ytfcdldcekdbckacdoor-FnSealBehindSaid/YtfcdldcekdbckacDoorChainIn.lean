/- The same in a round of a range over a function. -/
import Derived.Test.YtfcdldcekdbckacDoorChain
namespace Go
open Go.RowKit
section
variable {P : Program} {ops : Array Oper} {Q : Exit → Act → World → Prop} {B : World → Prop} {r n : Nat}

def deferFreeB (ops : Array Oper) : Bool := ops.all fun o => match o.op with
  | .defer _ => false
  | _ => true
theorem deferFree_spec (h : deferFreeB ops = true) {j : Nat} {o : Oper} (hj : ops[j]? = some o) : ∀ c, o.op ≠ .defer c := by
  intro c ho
  unfold deferFreeB at h
  rw [Array.all_eq_true_iff_forall_mem] at h
  have := h o (Array.mem_of_getElem? hj)
  rw [ho] at this
  cases this

theorem YieldsIf.wpOpRound (hd : deferFreeB ops = true) {i : Nat} {o : Oper} {v : Value} {a : Act} (hi : ops[i]? = some o) (hy : YieldsIf P ops B o v a)
    {K : Act → World → Prop} {w : World} (hB : B w) (h : K (a.put o.dst v) w) : wpOpIn (Fence.wide.inRound r) n P ops Q i K a w := by
  unfold Go.wpOpIn
  simp only [hi]
  rcases hy with ⟨hw, hv⟩ | ⟨hw, rfl⟩
  · simp only [hw, if_true, Oper.wpIn, Oper.semAt_eq _ _ _ (deferFree_spec hd hi), hv w hB, Oper.uponIn]
    exact ⟨fun _ _ => trivial, h⟩
  · simp only [hw, Bool.false_eq_true, if_false]
    exact ⟨fun _ _ => trivial, h⟩

theorem LeadC.wpOpRound (hd : deferFreeB ops = true) {i : Nat} {o : Oper} {v : Value} {a : Act} {w : World} {K : Act → World → Prop} {S S' : World → Prop} (hi : ops[i]? = some o) (hl : LeadC P ops S S' o v a) (hS : S w)
    (h : ∀ w', S' w' → K (a.put o.dst v) w') : wpOpIn (Fence.wide.inRound r) n P ops Q i K a w := by
  unfold Go.wpOpIn
  obtain ⟨hw, hv⟩ := hl
  simp only [hi, hw, if_true, Oper.wpIn, Oper.semAt_eq _ _ _ (deferFree_spec hd hi)]
  refine ⟨fun _ _ => trivial, ?_⟩
  have h1 := hv w hS
  generalize (execOp a.eval o).run P w = res at h1
  match res, h1 with
  | .ok (.value u) w', h1 => obtain ⟨rfl, h2⟩ := h1; exact h w' h2
  | .ok .skip w', h1 => obtain ⟨rfl, h2⟩ := h1; exact h w' h2
  | .ok (.enter f args) w', h1 =>
    simp only [Oper.uponIn]
    refine ⟨fun h0 => by simp [Fence.wide, Fence.inRound] at h0, CallsIn.mono (CallsIn.inRound r (callsIn_wide.2 h1)) fun e w'' he => ?_⟩
    obtain ⟨rfl, h2⟩ := he
    exact h w'' h2

/-- THE BEGINNING, in a round. -/
theorem wpRound_region_chain {id : Nat} {a : Act} {w : World} {l : List Oper} (B S : World → Prop) (hm : P.follows .mixedOrders = true) (hB : (chainB .any l.toArray && deferFreeB l.toArray) = true) (hS : S w.drew) (hSB : ∀ w, S w → B w)
    (h : ChainO P l.toArray (Q .normal) B l a S) : (Code.region id l.toArray true).wpIn (Fence.wide.inRound r) n P Q a w := by
  unfold chainB at hB
  simp only [Bool.and_eq_true] at hB
  obtain ⟨⟨⟨h1, h2⟩, h3⟩, hd⟩ := hB
  have h' := chainL_of_O (ops := l.toArray) l 0 a S (fun j _ => by simp) h
  rw [← List.range_eq_range'] at h'
  exact wpIn_region_any hm (wpAnyIn_of_G _ _ _ _ (chain_any (fun i o v a w K hi hy hb hk => hy.wpOpRound hd hi hb hk) (fun i o v a w K S S' hi hl hs hk => hl.wpOpRound hd hi hs hk)
    h1 (selFree_spec h2) h3 l.toArray.size (List.range l.length) _ a _ S (by simp) (by simp) (listed0 l) List.pairwise_lt_range hSB hS h'))

/-! ### The moves -/
theorem chain_nil {E : Act → World → Prop} {a : Act} {S : World → Prop} (h : ∀ w, S w → E a w) : ChainO P ops E B [] a S := h
theorem chain_val {E : Act → World → Prop} {l : List Oper} {a : Act} {S : World → Prop} {o : Oper} {v : Value} (hw : Region.wanted o (yielded ops a.tmps) = true)
    (hv : ∀ w, B w → (execOp a.eval o).run P w = .ok (.value v) w) (h : ChainO P ops E B l (a.put o.dst v) S) : ChainO P ops E B (o :: l) a S := .inl ⟨v, .inl ⟨hw, hv⟩, h⟩
theorem chain_no {E : Act → World → Prop} {l : List Oper} {a : Act} {S : World → Prop} {o : Oper} (hw : Region.wanted o (yielded ops a.tmps) = false)
    (h : ChainO P ops E B l (a.put o.dst undef) S) : ChainO P ops E B (o :: l) a S := .inl ⟨undef, .inr ⟨hw, rfl⟩, h⟩
/-- A call. -/
theorem chain_call {E : Act → World → Prop} {l : List Oper} {a : Act} {S : World → Prop} (S' : World → Prop) {o : Oper} {v : Value} {f : FuncId} {args : Array Value} (hm : movesB o = true) (hw : Region.wanted o (yielded ops a.tmps) = true)
    (hSB : ∀ w, S' w → B w) (hv : ∀ w, S w → (execOp a.eval o).run P w = .ok (.enter f args) w) (hc : ∀ w, S w → Calls P f args w (fun e w' => e = .returned v ∧ S' w'))
    (h : ChainO P ops E B l (a.put o.dst v) S') : ChainO P ops E B (o :: l) a S := .inr ⟨v, S', hm, hSB, ⟨hw, fun w hS => by rw [hv w hS]; exact hc w hS⟩, h⟩
/-- A store, an alloc: the world goes on by 'st'. -/
theorem chain_move {E : Act → World → Prop} {l : List Oper} {a : Act} {S : World → Prop} (S' : World → Prop) {o : Oper} {v : Value} (st : World → World) (hm : movesB o = true) (hw : Region.wanted o (yielded ops a.tmps) = true)
    (hSB : ∀ w, S' w → B w) (hv : ∀ w, S w → (execOp a.eval o).run P w = .ok (.value v) (st w)) (hs : ∀ w, S w → S' (st w))
    (h : ChainO P ops E B l (a.put o.dst v) S') : ChainO P ops E B (o :: l) a S := .inr ⟨v, S', hm, hSB, ⟨hw, fun w hS => by rw [hv w hS]; exact ⟨rfl, hs w hS⟩⟩, h⟩
/-- A store. -/
theorem chain_store {E : Act → World → Prop} {l : List Oper} {a : Act} {S : World → Prop} (S' : World → Prop) {o : Oper} (st : World → World) (hm : movesB o = true) (hw : Region.wanted o (yielded ops a.tmps) = true)
    (hSB : ∀ w, S' w → B w) (hv : ∀ w, S w → (execOp a.eval o).run P w = .ok .skip (st w)) (hs : ∀ w, S w → S' (st w))
    (h : ChainO P ops E B l (a.put o.dst undef) S') : ChainO P ops E B (o :: l) a S := .inr ⟨undef, S', hm, hSB, ⟨hw, fun w hS => by rw [hv w hS]; exact ⟨rfl, hs w hS⟩⟩, h⟩
end
end Go
