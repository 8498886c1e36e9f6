/- A region that draws its order, in which every operation yields one value in every world that meets S and leads to a world that meets S (calls too): whatever order is drawn, the state behind it is the same. -/
import Derived.Test.YtfcdldcekdbckacDoorRows
import Derived.Orders
import Derived.StillTail
import Derived.KernelRfl
import Derived.Below
import Derived.RowKit3
namespace Go
open Go.RowKit
section
variable {P : Program} {ops : Array Oper} {Q : Exit → Act → World → Prop} {md : Region.Mode} {S : World → Prop}

/-- What an operation leads to: the value v, and a world that meets S. -/
def LeadsS (P : Program) (S : World → Prop) (v : Value) : Result Next → Prop
  | .ok (.value u) w' => u = v ∧ S w'
  | .ok .skip w' => v = undef ∧ S w'
  | .ok (.enter f args) w' => Calls P f args w' (fun e w'' => e = .returned v ∧ S w'')
  | _ => False

def YieldsS (P : Program) (ops : Array Oper) (S : World → Prop) (o : Oper) (v : Value) (a : Act) : Prop :=
  (Region.wanted o (yielded ops a.tmps) = true ∧ ∀ w, S w → LeadsS P S v ((execOp a.eval o).run P w)) ∨
  (Region.wanted o (yielded ops a.tmps) = false ∧ v = undef)

theorem YieldsS.of_same {o : Oper} {v : Value} {a a' : Act} (hy : YieldsS P ops S o v a) (he : execOp a'.eval o = execOp a.eval o)
    (hw : Region.wanted o (yielded ops a'.tmps) = Region.wanted o (yielded ops a.tmps)) : YieldsS P ops S o v a' := by
  unfold YieldsS at *
  rw [he, hw]
  exact hy

theorem YieldsS.wpOp {i : Nat} {o : Oper} {v : Value} {a : Act} (hi : ops[i]? = some o) (hy : YieldsS P ops S o v a)
    {K : Act → World → Prop} {w : World} (hS : S w) (h : ∀ w', S w' → K (a.put o.dst v) w') : wpOp P ops Q i K a w := by
  unfold Go.wpOp
  simp only [hi]
  rcases hy with ⟨hw, hv⟩ | ⟨hw, rfl⟩
  · simp only [hw, if_true]
    refine .inl ?_
    have h1 := hv w hS
    unfold Oper.wp
    generalize (execOp a.eval o).run P w = r at h1
    match r, h1 with
    | .ok (.value u) w', h1 => obtain ⟨rfl, h2⟩ := h1; exact h w' h2
    | .ok .skip w', h1 => obtain ⟨rfl, h2⟩ := h1; exact h w' h2
    | .ok (.enter f args) w', h1 =>
      simp only [Oper.upon]
      refine Calls.mono h1 fun e w'' he => ?_
      obtain ⟨rfl, h2⟩ := he
      exact h w'' h2
  · simp only [hw, Bool.false_eq_true, if_false]; exact h w hS

/-- The operations of the list, one behind the other: what each yields; and the end. -/
def UniL (P : Program) (ops : Array Oper) (Q : Exit → Act → World → Prop) (S : World → Prop) : List Nat → Act → Prop
  | [], a => ∀ w, S w → Q .normal a w
  | i :: l, a => ∃ o v, ops[i]? = some o ∧ YieldsS P ops S o v a ∧ UniL P ops Q S l (a.put o.dst v)

/-- Of two operations, the later waits for the earlier, or they are apart. -/
def pairB (md : Region.Mode) (ops : Array Oper) (i j : Nat) : Bool :=
  match ops[i]?, ops[j]? with
  | some oi, some oj => (oj.after.any fun e => Region.binds md e && e.on == i) || (oi.apart ops oj && oj.apart ops oi)
  | _, _ => false

def SelFree (ops : Array Oper) : Prop := ∀ (j : Nat) (o : Oper) cs b, ops[j]? = some o → o.op ≠ .select cs b

theorem uni_swap (hsel : SelFree ops) {j : Nat} : ∀ (pre post : List Nat) (a : Act),
    (∀ i ∈ pre, ∃ oi oj, ops[i]? = some oi ∧ ops[j]? = some oj ∧ oi.apart ops oj = true ∧ oj.apart ops oi = true) → UniL P ops Q S (pre ++ j :: post) a →
    ∃ o v, ops[j]? = some o ∧ YieldsS P ops S o v a ∧ UniL P ops Q S (pre ++ post) (a.put o.dst v)
  | [], post, a, _, h => h
  | i :: pre, post, a, hap, h => by
    obtain ⟨oi, u, hi, hyi, h⟩ := h
    obtain ⟨oj, v, hj, hyj, h⟩ := uni_swap hsel pre post _ (fun k hk => hap k (by simp [hk])) h
    obtain ⟨oi', oj', hi', hj', a1, a2⟩ := hap i (by simp)
    obtain rfl : oi = oi' := Option.some.inj (hi.symm.trans hi')
    obtain rfl : oj = oj' := Option.some.inj (hj.symm.trans hj')
    obtain ⟨p1, p2, p3⟩ := Oper.apart_spec a1
    refine ⟨oj, v, hj, ?_, oi, u, hi, ?_, ?_⟩
    · exact hyj.of_same (execOp_put oj (fun cs b => hsel j oj cs b hj) a oi.dst u p1).symm (wanted_put oj a oi.dst u p1).symm
    · exact hyi.of_same (execOp_put oi (fun cs b => hsel i oi cs b hi) a oj.dst v p3) (wanted_put oi a oj.dst v p3)
    · rw [← Act.put_comm a u v p2]; exact h

/-- Every operation waits for earlier ones alone. -/
def backB (md : Region.Mode) (ops : Array Oper) : Bool :=
  (List.range ops.size).all fun j => match ops[j]? with
    | some o => o.after.all fun e => !Region.binds md e || decide (e.on < j)
    | none => true
def selFreeB (ops : Array Oper) : Bool := ops.all fun o => match o.op with
  | .select _ _ => false
  | _ => true
def pairsB (md : Region.Mode) (ops : Array Oper) : Bool :=
  (List.range ops.size).all fun j => (List.range j).all fun i => pairB md ops i j
def uniB (md : Region.Mode) (ops : Array Oper) : Bool := backB md ops && selFreeB ops && pairsB md ops

theorem selFree_spec (h : selFreeB ops = true) : SelFree ops := by
  intro j o cs b hj ho
  unfold selFreeB at h
  rw [Array.all_eq_true_iff_forall_mem] at h
  have := h o (Array.mem_of_getElem? hj)
  rw [ho] at this
  cases this

theorem back_spec (h : backB md ops = true) {j : Nat} {o : Oper} (hj : ops[j]? = some o) (e : Edge) (he : e ∈ o.after) (hb : Region.binds md e = true) : e.on < j := by
  unfold backB at h
  rw [List.all_eq_true] at h
  have hlt : j < ops.size := (Array.getElem?_eq_some_iff.1 hj).1
  have h1 := h j (List.mem_range.2 hlt)
  simp only [hj, Array.all_eq_true_iff_forall_mem] at h1
  have h2 := h1 e he
  simpa [hb] using h2

theorem pairs_spec (h : pairsB md ops = true) {i j : Nat} (hij : i < j) (hj : j < ops.size) : pairB md ops i j = true := by
  unfold pairsB at h
  rw [List.all_eq_true] at h
  have h1 := h j (List.mem_range.2 hj)
  rw [List.all_eq_true] at h1
  exact h1 i (List.mem_range.2 hij)

theorem uni_ready (hback : backB md ops = true) {i : Nat} {l : List Nat} {listed : Array Bool} (hsz : listed.size = ops.size)
    (hl : ∀ j, listed.getD j true = false ↔ j ∈ i :: l) (hs : (i :: l).Pairwise (· < ·)) : i ∈ Region.ready md ops listed := by
  have hi : listed.getD i true = false := (hl i).2 (by simp)
  have hlt : i < ops.size := by
    rcases Nat.lt_or_ge i listed.size with h' | h'
    · omega
    · simp [Array.getElem?_eq_none h'] at hi
  rw [mem_ready]
  refine ⟨hi, ops[i], Array.getElem?_eq_getElem hlt, fun e he hb => ?_⟩
  have hlt2 := back_spec hback (Array.getElem?_eq_getElem hlt) e he hb
  have hne : ¬ listed.getD e.on true = false := by
    rw [hl]
    intro hm
    rcases List.mem_cons.1 hm with h | h
    · omega
    · have := List.rel_of_pairwise_cons hs h; omega
  have hin : e.on < listed.size := by omega
  simp [hin] at hne ⊢
  exact hne

theorem uni_any (hback : backB md ops = true) (hsel : SelFree ops) (hpr : pairsB md ops = true) : ∀ (fuel : Nat) (l : List Nat) (listed : Array Bool) (a : Act) (w : World),
    l.length ≤ fuel → listed.size = ops.size → (∀ j, listed.getD j true = false ↔ j ∈ l) → l.Pairwise (· < ·) → S w → UniL P ops Q S l a →
    wpAny P md ops Q fuel listed a w := by
  intro fuel
  induction fuel with
  | zero =>
    intro l listed a w hlen hsz hl hs hS h
    obtain rfl : l = [] := by cases l with | nil => rfl | cons _ _ => simp at hlen
    refine ⟨?_, h w hS⟩
    rw [List.eq_nil_iff_forall_not_mem]
    intro j hj
    have := (hl j).1 (mem_ready.1 hj).1
    cases this
  | succ fuel ih =>
    intro l listed a w hlen hsz hl hs hS h
    refine ⟨fun h0 => ?_, fun j hj => ?_⟩
    · cases l with
      | nil => exact h w hS
      | cons i l =>
        have := uni_ready hback hsz hl hs
        rw [h0] at this
        cases this
    · obtain ⟨hjun, oj, hoj, hall⟩ := mem_ready.1 hj
      have hjl := (hl j).1 hjun
      have hj_size : j < listed.size := by
        rcases Nat.lt_or_ge j listed.size with h' | h'
        · exact h'
        · simp [Array.getElem?_eq_none h'] at hjun
      obtain ⟨pre, post, rfl⟩ := List.append_of_mem hjl
      have hs2 := hs
      rw [List.pairwise_append] at hs2
      have hap : ∀ i ∈ pre, ∃ oi oj, ops[i]? = some oi ∧ ops[j]? = some oj ∧ oi.apart ops oj = true ∧ oj.apart ops oi = true := by
        intro i hi
        have hp : pairB md ops i j = true := pairs_spec hpr (hs2.2.2 i hi j (by simp)) (by omega)
        unfold pairB at hp
        cases hoi : ops[i]? with
        | none => simp [hoi] at hp
        | some oi =>
          simp only [hoi, hoj, Bool.or_eq_true, Bool.and_eq_true] at hp
          rcases hp with hp | hp
          · rw [← Array.any_toList, List.any_eq_true] at hp
            obtain ⟨e, he, hp⟩ := hp
            have he' : e ∈ oj.after := by simpa using he
            simp only [Bool.and_eq_true, beq_iff_eq] at hp
            have h3 := hall e he' hp.1
            rw [hp.2] at h3
            have h4 := (hl i).2 (by simp [hi])
            rcases Nat.lt_or_ge i listed.size with h' | h'
            · simp [h'] at h3 h4; rw [h3] at h4; cases h4
            · simp [Array.getElem?_eq_none h'] at h3
          · exact ⟨oi, oj, rfl, hoj, hp.1, hp.2⟩
      obtain ⟨o, v, ho, hy, hU⟩ := uni_swap hsel pre post a hap h
      have hsub : (pre ++ post).Sublist (pre ++ j :: post) := List.Sublist.append_left (List.sublist_cons_self _ _) _
      have hjnot : j ∉ pre ++ post := by
        intro hm
        rcases List.mem_append.1 hm with hm | hm
        · have := hs2.2.2 j hm j (by simp); omega
        · have := List.rel_of_pairwise_cons hs2.2.1 hm; omega
      refine YieldsS.wpOp ho hy hS fun w' hS' => ?_
      refine ih (pre ++ post) (listed.setIfInBounds j true) _ w' ?_ (by simpa using hsz) (fun k => ?_) (hs.sublist hsub) hS' hU
      · simp at hlen ⊢; omega
      · by_cases e : j = k
        · subst e
          simp [hj_size]
          simpa using hjnot
        · rw [getD_set_ne true e, hl k]
          simp only [List.mem_append, List.mem_cons]
          constructor
          · rintro (h | h | h)
            · exact .inl h
            · exact absurd h.symm e
            · exact .inr h
          · rintro (h | h)
            · exact .inl h
            · exact .inr (.inr h)

/-- The same, the operations written out. -/
def UniO (P : Program) (ops : Array Oper) (Q : Exit → Act → World → Prop) (S : World → Prop) : List Oper → Act → Prop
  | [], a => ∀ w, S w → Q .normal a w
  | o :: l, a => ∃ v, YieldsS P ops S o v a ∧ UniO P ops Q S l (a.put o.dst v)

theorem uniL_of_O : ∀ (l : List Oper) (k : Nat) (a : Act), (∀ j, j < l.length → l[j]? = ops[k + j]?) → UniO P ops Q S l a → UniL P ops Q S (List.range' k l.length) a
  | [], _, _, _, h => h
  | o :: l, k, a, hl, h => by
    obtain ⟨v, hy, h⟩ := h
    have h0 := hl 0 (by simp)
    refine ⟨o, v, by simpa using h0.symm, hy, ?_⟩
    refine uniL_of_O l (k + 1) _ (fun j hj => ?_) h
    have := hl (j + 1) (by simpa using hj)
    rw [show k + 1 + j = k + (j + 1) by omega, ← this]
    simp

/-- THE BEGINNING: a region that draws. -/
theorem wp_region_uni {id : Nat} {a : Act} {w : World} {l : List Oper} (S : World → Prop) (hm : P.follows .mixedOrders = true) (hB : uniB .any l.toArray = true) (hS : S w.drew)
    (h : UniO P l.toArray Q S l a) : (Code.region id l.toArray true).wp P Q a w := by
  unfold uniB at hB
  simp only [Bool.and_eq_true] at hB
  obtain ⟨⟨h1, h2⟩, h3⟩ := hB
  have h' := uniL_of_O (ops := l.toArray) l 0 a (fun j _ => by simp) h
  rw [← List.range_eq_range'] at h'
  refine wp_region_any hm ?_
  refine uni_any h1 (selFree_spec h2) h3 l.toArray.size (List.range l.length) _ a _ (by simp) (by simp) (fun j => ?_) List.pairwise_lt_range hS h'
  rcases Nat.lt_or_ge j l.toArray.size with hj | hj
  · have : j < l.length := by simpa using hj
    simp [this]
  · have : ¬ j < l.length := by simpa using hj
    simp [this]

theorem uni_nil {a : Act} (h : ∀ w, S w → Q .normal a w) : UniO P ops Q S [] a := h
/-- It yields a value, whatever the world that meets S. -/
theorem uni_val {l : List Oper} {a : Act} {o : Oper} {v : Value} (hw : Region.wanted o (yielded ops a.tmps) = true)
    (hv : ∀ w, S w → (execOp a.eval o).run P w = .ok (.value v) w) (h : UniO P ops Q S l (a.put o.dst v)) : UniO P ops Q S (o :: l) a :=
  ⟨v, .inl ⟨hw, fun w hS => by rw [hv w hS]; exact ⟨rfl, hS⟩⟩, h⟩
/-- It is not wanted. -/
theorem uni_no {l : List Oper} {a : Act} {o : Oper} (hw : Region.wanted o (yielded ops a.tmps) = false)
    (h : UniO P ops Q S l (a.put o.dst undef)) : UniO P ops Q S (o :: l) a := ⟨undef, .inr ⟨hw, rfl⟩, h⟩
/-- It is a call, and the callee turns nothing that was there. -/
theorem uni_callB {l : List Oper} {a : Act} {o : Oper} {v : Value} {f : FuncId} {args : Array Value} (hw : Region.wanted o (yielded ops a.tmps) = true)
    (hc : ∀ w : World, Calls P f args w (fun e w' => e = .returned v ∧ Below w.heap.size w w')) (hk : ∀ w w', S w → Below w.heap.size w w' → S w')
    (hv : ∀ w, S w → (execOp a.eval o).run P w = .ok (.enter f args) w) (h : UniO P ops Q S l (a.put o.dst v)) : UniO P ops Q S (o :: l) a :=
  ⟨v, .inl ⟨hw, fun w hS => by rw [hv w hS]; exact (hc w).mono fun _ w' ⟨he, hb⟩ => ⟨he, hk w w' hS hb⟩⟩, h⟩
end

end Go
