/- A region that draws its order: some of its operations only read (one value in every world that meets B), the others move the world and wait for one another: whatever order is drawn, the state behind it is the same. Plain, and in a round of a range over a function. -/
import Derived.Test.YtfcdldcekdbckacDoorUni
import Derived.OrdersHeld
import Derived.OrdersIn
import Derived.RangeFuncCalls
namespace Go
open Go.RowKit
section
variable {P : Program} {ops : Array Oper} {Q : Exit → Act → World → Prop} {md : Region.Mode} {B : World → Prop}

/-- It moves the world. -/
def movesB (o : Oper) : Bool := match o.op with
  | .call _ | .store .. | .alloc _ | .box .. => true
  | _ => false

def LeadC (P : Program) (ops : Array Oper) (S S' : World → Prop) (o : Oper) (v : Value) (a : Act) : Prop :=
  Region.wanted o (yielded ops a.tmps) = true ∧ ∀ w, S w → LeadsS P S' v ((execOp a.eval o).run P w)

theorem LeadC.of_same {S S' : World → Prop} {o : Oper} {v : Value} {a a' : Act} (hy : LeadC P ops S S' o v a) (he : execOp a'.eval o = execOp a.eval o)
    (hw : Region.wanted o (yielded ops a'.tmps) = Region.wanted o (yielded ops a.tmps)) : LeadC P ops S S' o v a' := by
  unfold LeadC at *
  rw [he, hw]
  exact hy

/-- The operations of the list, one behind the other. -/
def ChainL (P : Program) (ops : Array Oper) (E : Act → World → Prop) (B : World → Prop) : List Nat → Act → (World → Prop) → Prop
  | [], a, S => ∀ w, S w → E a w
  | i :: l, a, S => ∃ o, ops[i]? = some o ∧
      ((∃ v, YieldsIf P ops B o v a ∧ ChainL P ops E B l (a.put o.dst v) S) ∨
       (∃ v S', movesB o = true ∧ (∀ w, S' w → B w) ∧ LeadC P ops S S' o v a ∧ ChainL P ops E B l (a.put o.dst v) S'))

/-- Of two operations, the later waits for the earlier; or they are apart, and not both move the world. -/
def pairC (md : Region.Mode) (ops : Array Oper) (i j : Nat) : Bool :=
  match ops[i]?, ops[j]? with
  | some oi, some oj => (oj.after.any fun e => Region.binds md e && e.on == i) || (oi.apart ops oj && oj.apart ops oi && !(movesB oi && movesB oj))
  | _, _ => false
def pairsC (md : Region.Mode) (ops : Array Oper) : Bool :=
  (List.range ops.size).all fun j => (List.range j).all fun i => pairC md ops i j
def chainB (md : Region.Mode) (ops : Array Oper) : Bool := backB md ops && selFreeB ops && pairsC md ops
theorem pairsC_spec (h : pairsC md ops = true) {i j : Nat} (hij : i < j) (hj : j < ops.size) : pairC md ops i j = true := by
  unfold pairsC at h
  rw [List.all_eq_true] at h
  have h1 := h j (List.mem_range.2 hj)
  rw [List.all_eq_true] at h1
  exact h1 i (List.mem_range.2 hij)

variable {E : Act → World → Prop}
theorem chain_swap (hsel : SelFree ops) {j : Nat} : ∀ (pre post : List Nat) (a : Act) (S : World → Prop),
    (∀ i ∈ pre, ∃ oi oj, ops[i]? = some oi ∧ ops[j]? = some oj ∧ oi.apart ops oj = true ∧ oj.apart ops oi = true ∧ (movesB oi && movesB oj) = false) → ChainL P ops E B (pre ++ j :: post) a S →
    ∃ o, ops[j]? = some o ∧
      ((∃ v, YieldsIf P ops B o v a ∧ ChainL P ops E B (pre ++ post) (a.put o.dst v) S) ∨
       (∃ v S', movesB o = true ∧ (∀ w, S' w → B w) ∧ LeadC P ops S S' o v a ∧ ChainL P ops E B (pre ++ post) (a.put o.dst v) S'))
  | [], post, a, S, _, h => h
  | i :: pre, post, a, S, hap, h => by
    obtain ⟨oi, hi, h⟩ := h
    obtain ⟨oi', oj', hi', hj', a1, a2, hm⟩ := hap i (by simp)
    obtain rfl : oi = oi' := Option.some.inj (hi.symm.trans hi')
    obtain ⟨p1, p2, p3⟩ := Oper.apart_spec a1
    have se : ∀ u, execOp (a.put oi.dst u).eval oj' = execOp a.eval oj' := fun u => execOp_put oj' (fun cs b => hsel j oj' cs b hj') a oi.dst u p1
    have sw : ∀ u, Region.wanted oj' (yielded ops (a.put oi.dst u).tmps) = Region.wanted oj' (yielded ops a.tmps) := fun u => wanted_put oj' a oi.dst u p1
    have te : ∀ v, execOp (a.put oj'.dst v).eval oi = execOp a.eval oi := fun v => execOp_put oi (fun cs b => hsel i oi cs b hi) a oj'.dst v p3
    have tw : ∀ v, Region.wanted oi (yielded ops (a.put oj'.dst v).tmps) = Region.wanted oi (yielded ops a.tmps) := fun v => wanted_put oi a oj'.dst v p3
    rcases h with ⟨u, hyi, h⟩ | ⟨u, S1, hmi, hS1, hli, h⟩
    · obtain ⟨oj, hj, h⟩ := chain_swap hsel pre post _ S (fun k hk => hap k (by simp [hk])) h
      obtain rfl : oj = oj' := Option.some.inj (hj.symm.trans hj')
      refine ⟨oj, hj, ?_⟩
      rcases h with ⟨v, hyj, h⟩ | ⟨v, S', hmj, hS', hlj, h⟩
      · refine .inl ⟨v, hyj.of_same (se u).symm (sw u).symm, oi, hi, .inl ⟨u, hyi.of_same (te v) (tw v), ?_⟩⟩
        rw [← Act.put_comm a u v p2]; exact h
      · refine .inr ⟨v, S', hmj, hS', hlj.of_same (se u).symm (sw u).symm, oi, hi, .inl ⟨u, hyi.of_same (te v) (tw v), ?_⟩⟩
        rw [← Act.put_comm a u v p2]; exact h
    · obtain ⟨oj, hj, h⟩ := chain_swap hsel pre post _ S1 (fun k hk => hap k (by simp [hk])) h
      obtain rfl : oj = oj' := Option.some.inj (hj.symm.trans hj')
      refine ⟨oj, hj, ?_⟩
      rcases h with ⟨v, hyj, h⟩ | ⟨v, S', hmj, hS', hlj, h⟩
      · refine .inl ⟨v, hyj.of_same (se u).symm (sw u).symm, oi, hi, .inr ⟨u, S1, hmi, hS1, hli.of_same (te v) (tw v), ?_⟩⟩
        rw [← Act.put_comm a u v p2]; exact h
      · rw [hmi, hmj] at hm; cases hm

/-- Whatever order is picked, over a walk of one operation that is W. -/
def anyG (W : Nat → (Act → World → Prop) → Act → World → Prop) (md : Region.Mode) (ops : Array Oper) (E : Act → World → Prop) : Nat → Array Bool → Act → World → Prop
  | 0, listed, a, w => Region.ready md ops listed = [] ∧ E a w
  | fuel + 1, listed, a, w =>
    (Region.ready md ops listed = [] → E a w) ∧ ∀ i ∈ Region.ready md ops listed, W i (anyG W md ops E fuel (listed.setIfInBounds i true)) a w

theorem chain_any {W : Nat → (Act → World → Prop) → Act → World → Prop}
    (hWv : ∀ (i : Nat) (o : Oper) (v : Value) (a : Act) (w : World) (K : Act → World → Prop), ops[i]? = some o → YieldsIf P ops B o v a → B w → K (a.put o.dst v) w → W i K a w)
    (hWc : ∀ (i : Nat) (o : Oper) (v : Value) (a : Act) (w : World) (K : Act → World → Prop) (S S' : World → Prop), ops[i]? = some o → LeadC P ops S S' o v a → S w → (∀ w', S' w' → K (a.put o.dst v) w') → W i K a w)
    (hback : backB md ops = true) (hsel : SelFree ops) (hpr : pairsC md ops = true) : ∀ (fuel : Nat) (l : List Nat) (listed : Array Bool) (a : Act) (w : World) (S : World → Prop),
    l.length ≤ fuel → listed.size = ops.size → (∀ j, listed.getD j true = false ↔ j ∈ l) → l.Pairwise (· < ·) → (∀ w, S w → B w) → S w → ChainL P ops E B l a S →
    anyG W md ops E fuel listed a w := by
  intro fuel
  induction fuel with
  | zero =>
    intro l listed a w S hlen hsz hl hs hSB hS h
    obtain rfl : l = [] := by cases l with | nil => rfl | cons _ _ => simp at hlen
    refine ⟨?_, h w hS⟩
    rw [List.eq_nil_iff_forall_not_mem]
    intro j hj
    have := (hl j).1 (mem_ready.1 hj).1
    cases this
  | succ fuel ih =>
    intro l listed a w S hlen hsz hl hs hSB hS h
    refine ⟨fun h0 => ?_, fun j hj => ?_⟩
    · cases l with
      | nil => exact h w hS
      | cons i l =>
        have := uni_ready hback hsz hl hs
        rw [h0] at this
        cases this
    · obtain ⟨hjun, oj, hoj, hall⟩ := mem_ready.1 hj
      have hjl := (hl j).1 hjun
      have hj_size : j < listed.size := by
        rcases Nat.lt_or_ge j listed.size with h' | h'
        · exact h'
        · simp [Array.getElem?_eq_none h'] at hjun
      obtain ⟨pre, post, rfl⟩ := List.append_of_mem hjl
      have hs2 := hs
      rw [List.pairwise_append] at hs2
      have hap : ∀ i ∈ pre, ∃ oi oj, ops[i]? = some oi ∧ ops[j]? = some oj ∧ oi.apart ops oj = true ∧ oj.apart ops oi = true ∧ (movesB oi && movesB oj) = false := by
        intro i hi
        have hp : pairC md ops i j = true := pairsC_spec hpr (hs2.2.2 i hi j (by simp)) (by omega)
        unfold pairC at hp
        cases hoi : ops[i]? with
        | none => simp [hoi] at hp
        | some oi =>
          simp only [hoi, hoj, Bool.or_eq_true, Bool.and_eq_true, Bool.not_eq_true'] at hp
          rcases hp with hp | hp
          · rw [← Array.any_toList, List.any_eq_true] at hp
            obtain ⟨e, he, hp⟩ := hp
            have he' : e ∈ oj.after := by simpa using he
            simp only [Bool.and_eq_true, beq_iff_eq] at hp
            have h3 := hall e he' hp.1
            rw [hp.2] at h3
            have h4 := (hl i).2 (by simp [hi])
            rcases Nat.lt_or_ge i listed.size with h' | h'
            · simp [h'] at h3 h4; rw [h3] at h4; cases h4
            · simp [Array.getElem?_eq_none h'] at h3
          · exact ⟨oi, oj, rfl, hoj, hp.1.1, hp.1.2, hp.2⟩
      obtain ⟨o, ho, hU⟩ := chain_swap hsel pre post a S hap h
      have hsub : (pre ++ post).Sublist (pre ++ j :: post) := List.Sublist.append_left (List.sublist_cons_self _ _) _
      have hjnot : j ∉ pre ++ post := by
        intro hm
        rcases List.mem_append.1 hm with hm | hm
        · have := hs2.2.2 j hm j (by simp); omega
        · have := List.rel_of_pairwise_cons hs2.2.1 hm; omega
      have hlen' : (pre ++ post).length ≤ fuel := by simp at hlen ⊢; omega
      have hl' : ∀ k, (listed.setIfInBounds j true).getD k true = false ↔ k ∈ pre ++ post := by
        intro k
        by_cases e : j = k
        · subst e
          simp [hj_size]
          simpa using hjnot
        · rw [getD_set_ne true e, hl k]
          simp only [List.mem_append, List.mem_cons]
          constructor
          · rintro (h | h | h)
            · exact .inl h
            · exact absurd h.symm e
            · exact .inr h
          · rintro (h | h)
            · exact .inl h
            · exact .inr (.inr h)
      rcases hU with ⟨v, hy, hU⟩ | ⟨v, S', _, hS'B, hlc, hU⟩
      · exact hWv j o v a w _ ho hy (hSB w hS) (ih (pre ++ post) _ _ w S hlen' (by simpa using hsz) hl' (hs.sublist hsub) hSB hS hU)
      · exact hWc j o v a w _ S S' ho hlc hS (fun w' hw' => ih (pre ++ post) _ _ w' S' hlen' (by simpa using hsz) hl' (hs.sublist hsub) hS'B hw' hU)

theorem wpAny_of_G : ∀ (fuel : Nat) (listed : Array Bool) (a : Act) (w : World), anyG (wpOp P ops Q) md ops (Q .normal) fuel listed a w → wpAny P md ops Q fuel listed a w
  | 0, _, _, _, h => h
  | fuel + 1, _, _, _, h => ⟨h.1, fun i hi => wpOp_mono (fun a' w' h' => wpAny_of_G fuel _ a' w' h') (h.2 i hi)⟩
theorem wpAnyIn_of_G {F : Fence} {n : Nat} : ∀ (fuel : Nat) (listed : Array Bool) (a : Act) (w : World), anyG (wpOpIn F n P ops Q) md ops (Q .normal) fuel listed a w → wpAnyIn F n P md ops Q fuel listed a w
  | 0, _, _, _, h => h
  | fuel + 1, _, _, _, h => ⟨h.1, fun i hi => wpOpIn_mono (fun a' w' h' => wpAnyIn_of_G fuel _ a' w' h') (h.2 i hi)⟩

theorem LeadC.wpOp {i : Nat} {o : Oper} {v : Value} {a : Act} {w : World} {K : Act → World → Prop} {S S' : World → Prop} (hi : ops[i]? = some o) (hl : LeadC P ops S S' o v a) (hS : S w)
    (h : ∀ w', S' w' → K (a.put o.dst v) w') : wpOp P ops Q i K a w := by
  unfold Go.wpOp
  obtain ⟨hw, hv⟩ := hl
  simp only [hi, hw, if_true]
  refine .inl ?_
  have h1 := hv w hS
  unfold Oper.wp
  generalize (execOp a.eval o).run P w = r at h1
  match r, h1 with
  | .ok (.value u) w', h1 => obtain ⟨rfl, h2⟩ := h1; exact h w' h2
  | .ok .skip w', h1 => obtain ⟨rfl, h2⟩ := h1; exact h w' h2
  | .ok (.enter f args) w', h1 =>
    simp only [Oper.upon]
    refine Calls.mono h1 fun e w'' he => ?_
    obtain ⟨rfl, h2⟩ := he
    exact h w'' h2

/-- The operations written out. -/
def ChainO (P : Program) (ops : Array Oper) (E : Act → World → Prop) (B : World → Prop) : List Oper → Act → (World → Prop) → Prop
  | [], a, S => ∀ w, S w → E a w
  | o :: l, a, S => (∃ v, YieldsIf P ops B o v a ∧ ChainO P ops E B l (a.put o.dst v) S) ∨
       (∃ v S', movesB o = true ∧ (∀ w, S' w → B w) ∧ LeadC P ops S S' o v a ∧ ChainO P ops E B l (a.put o.dst v) S')
theorem chainL_of_O : ∀ (l : List Oper) (k : Nat) (a : Act) (S : World → Prop), (∀ j, j < l.length → l[j]? = ops[k + j]?) → ChainO P ops E B l a S → ChainL P ops E B (List.range' k l.length) a S
  | [], _, _, _, _, h => h
  | o :: l, k, a, S, hl, h => by
    have h0 := hl 0 (by simp)
    have hl' : ∀ j, j < l.length → l[j]? = ops[k + 1 + j]? := fun j hj => by
      have := hl (j + 1) (by simpa using hj)
      rw [show k + 1 + j = k + (j + 1) by omega, ← this]
      simp
    refine ⟨o, by simpa using h0.symm, ?_⟩
    rcases h with ⟨v, hy, h⟩ | ⟨v, S', hm, hS', hc, h⟩
    · exact .inl ⟨v, hy, chainL_of_O l (k + 1) _ S hl' h⟩
    · exact .inr ⟨v, S', hm, hS', hc, chainL_of_O l (k + 1) _ S' hl' h⟩

theorem listed0 (l : List Oper) (j : Nat) : (Array.replicate l.toArray.size false).getD j true = false ↔ j ∈ List.range l.length := by
  rcases Nat.lt_or_ge j l.toArray.size with hj | hj
  · have : j < l.length := by simpa using hj
    simp [this]
  · have : ¬ j < l.length := by simpa using hj
    simp [this]

/-- THE BEGINNING, plain. -/
theorem wp_region_chain {id : Nat} {a : Act} {w : World} {l : List Oper} (B S : World → Prop) (hm : P.follows .mixedOrders = true) (hB : chainB .any l.toArray = true) (hS : S w.drew) (hSB : ∀ w, S w → B w)
    (h : ChainO P l.toArray (Q .normal) B l a S) : (Code.region id l.toArray true).wp P Q a w := by
  unfold chainB at hB
  simp only [Bool.and_eq_true] at hB
  obtain ⟨⟨h1, h2⟩, h3⟩ := hB
  have h' := chainL_of_O (ops := l.toArray) l 0 a S (fun j _ => by simp) h
  rw [← List.range_eq_range'] at h'
  exact wp_region_any hm (wpAny_of_G _ _ _ _ (chain_any (fun i o v a w K hi hy hb hk => hy.wpOp hi hb hk) (fun i o v a w K S S' hi hl hs hk => hl.wpOp hi hs hk)
    h1 (selFree_spec h2) h3 l.toArray.size (List.range l.length) _ a _ S (by simp) (by simp) (listed0 l) List.pairwise_lt_range hSB hS h'))
end
end Go
