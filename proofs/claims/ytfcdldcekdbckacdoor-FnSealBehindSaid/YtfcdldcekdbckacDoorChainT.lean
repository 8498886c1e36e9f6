/- A region that draws its order and whose last operation waits for all the others (a store into what is read): the others as in Chain, the last by hand. -/
import Derived.Test.YtfcdldcekdbckacDoorChainIn
namespace Go
open Go.RowKit
section
variable {P : Program} {ops : Array Oper} {Q : Exit → Act → World → Prop} {md : Region.Mode} {B : World → Prop} {r n : Nat} {E : Act → World → Prop}

/-- Each operation ahead of the last is waited for by a later one. -/
def lastB (md : Region.Mode) (ops : Array Oper) : Bool :=
  (List.range (ops.size - 1)).all fun i => (List.range ops.size).any fun j => decide (i < j) && (match ops[j]? with
    | some o => o.after.any fun e => Region.binds md e && e.on == i
    | none => false)
theorem last_spec (h : lastB md ops = true) {i : Nat} (hi : i < ops.size - 1) : ∃ j o e, i < j ∧ ops[j]? = some o ∧ e ∈ o.after ∧ Region.binds md e = true ∧ e.on = i := by
  unfold lastB at h
  rw [List.all_eq_true] at h
  have h1 := h i (List.mem_range.2 hi)
  rw [List.any_eq_true] at h1
  obtain ⟨j, _, h2⟩ := h1
  simp only [Bool.and_eq_true, decide_eq_true_eq] at h2
  obtain ⟨hij, h2⟩ := h2
  cases hj : ops[j]? with
  | none => simp [hj] at h2
  | some o =>
    simp only [hj] at h2
    rw [← Array.any_toList, List.any_eq_true] at h2
    obtain ⟨e, he, h3⟩ := h2
    simp only [Bool.and_eq_true, beq_iff_eq] at h3
    exact ⟨j, o, e, hij, hj, by simpa using he, h3.1, h3.2⟩

/-- What is listed is closed under waiting. -/
def Down (md : Region.Mode) (ops : Array Oper) (listed : Array Bool) : Prop :=
  ∀ j o, ops[j]? = some o → listed.getD j false = true → ∀ e ∈ o.after, Region.binds md e = true → listed.getD e.on false = true

theorem getD_flip {listed : Array Bool} {j : Nat} (hj : j < listed.size) : (listed.getD j true = false) ↔ ¬ listed.getD j false = true := by simp [hj]

/-- While one of the others is not listed, the last cannot come up. -/
theorem last_waits (h : lastB md ops = true) {listed : Array Bool} (hsz : listed.size = ops.size) (hd : Down md ops listed) :
    ∀ (d i : Nat), ops.size - 1 - i = d → i < ops.size - 1 → listed.getD i true = false → ops.size - 1 ∉ Region.ready md ops listed := by
  intro d
  induction d using Nat.strongRecOn with
  | ind d ih =>
    intro i hdi hi hun hr
    obtain ⟨j, o, e, hij, hj, he, hb, heq⟩ := last_spec h hi
    have hjs : j < ops.size := (Array.getElem?_eq_some_iff.1 hj).1
    have hni : ¬ listed.getD i false = true := (getD_flip (by omega)).1 hun
    by_cases hjl : j = ops.size - 1
    · subst hjl
      obtain ⟨_, o', ho', hall⟩ := mem_ready.1 hr
      have : o = o' := Option.some.inj (hj.symm.trans ho')
      subst this
      have := hall e he hb
      rw [heq] at this
      exact hni this
    · have hjun : listed.getD j true = false := by
        rw [getD_flip (by omega)]
        intro hl
        have := hd j o hj hl e he hb
        rw [heq] at this
        exact hni this
      exact ih (ops.size - 1 - j) (by omega) j rfl (by omega) hjun hr

theorem chain_any_tail {W : Nat → (Act → World → Prop) → Act → World → Prop}
    (hWm : ∀ (i : Nat) (a : Act) (w : World) (K K' : Act → World → Prop), (∀ a w, K a w → K' a w) → W i K a w → W i K' a w)
    (hWv : ∀ (i : Nat) (o : Oper) (v : Value) (a : Act) (w : World) (K : Act → World → Prop), ops[i]? = some o → YieldsIf P ops B o v a → B w → K (a.put o.dst v) w → W i K a w)
    (hWc : ∀ (i : Nat) (o : Oper) (v : Value) (a : Act) (w : World) (K : Act → World → Prop) (S S' : World → Prop), ops[i]? = some o → LeadC P ops S S' o v a → S w → (∀ w', S' w' → K (a.put o.dst v) w') → W i K a w)
    (hback : backB md ops = true) (hsel : SelFree ops) (hpr : pairsC md ops = true) (hlast : lastB md ops = true) (hpos : 0 < ops.size) : ∀ (fuel : Nat) (l : List Nat) (listed : Array Bool) (a : Act) (w : World) (S : World → Prop),
    l.length + 1 ≤ fuel → listed.size = ops.size → (∀ j, listed.getD j true = false ↔ j ∈ l ∨ j = ops.size - 1) → (∀ j ∈ l, j < ops.size - 1) → l.Pairwise (· < ·) → Down md ops listed → (∀ w, S w → B w) → S w →
    ChainL P ops (fun a w => W (ops.size - 1) E a w) B l a S → anyG W md ops E fuel listed a w := by
  intro fuel
  induction fuel with
  | zero => intro l listed a w S hlen; omega
  | succ fuel ih =>
    intro l listed a w S hlen hsz hl hlt hs hdn hSB hS h
    cases l with
    | nil =>
      have hun : listed.getD (ops.size - 1) true = false := (hl _).2 (.inr rfl)
      have hin : ops.size - 1 < listed.size := by omega
      have hlisted : ∀ j, j < ops.size - 1 → listed.getD j false = true := fun j hj => by
        have h1 : ¬ listed.getD j true = false := fun h2 => by
          rcases (hl j).1 h2 with h3 | h3
          · cases h3
          · omega
        rw [getD_flip (by omega)] at h1
        exact Classical.not_not.1 h1
      have hr : ops.size - 1 ∈ Region.ready md ops listed := by
        rw [mem_ready]
        exact ⟨hun, ops[ops.size - 1], Array.getElem?_eq_getElem (by omega), fun e he hb => hlisted _ (back_spec hback (Array.getElem?_eq_getElem (by omega)) e he hb)⟩
      refine ⟨fun h0 => (by rw [h0] at hr; cases hr), fun j hj => ?_⟩
      have hjl : j = ops.size - 1 := by
        rcases (hl j).1 (mem_ready.1 hj).1 with h3 | h3
        · cases h3
        · exact h3
      subst hjl
      refine hWm _ _ _ _ _ (fun a' w' he => ?_) (h w hS)
      have hnone : Region.ready md ops (listed.setIfInBounds (ops.size - 1) true) = [] := by
        rw [List.eq_nil_iff_forall_not_mem]
        intro i hi
        have h1 := (mem_ready.1 hi).1
        by_cases e : ops.size - 1 = i
        · subst e; simp [hin] at h1
        · rw [getD_set_ne true e] at h1
          rcases (hl i).1 h1 with h3 | h3
          · cases h3
          · exact e h3.symm
      cases fuel with
      | zero => exact ⟨hnone, he⟩
      | succ f => exact ⟨fun _ => he, by rw [hnone]; intro i hi; cases hi⟩
    | cons i0 l0 =>
      have hi0 := hlt i0 (by simp)
      have hun0 : listed.getD i0 true = false := (hl i0).2 (.inl (by simp))
      have hnl := last_waits hlast hsz hdn (ops.size - 1 - i0) i0 rfl hi0 hun0
      refine ⟨fun h0 => ?_, fun j hj => ?_⟩
      · have hmin : i0 ∈ Region.ready md ops listed := by
          rw [mem_ready]
          refine ⟨hun0, ops[i0]'(by omega), Array.getElem?_eq_getElem (by omega), fun e he hb => ?_⟩
          have h1 := back_spec hback (Array.getElem?_eq_getElem (by omega)) e he hb
          have h2 : ¬ listed.getD e.on true = false := fun h2 => by
            rcases (hl _).1 h2 with h3 | h3
            · rcases List.mem_cons.1 h3 with h4 | h4
              · omega
              · have := List.rel_of_pairwise_cons hs h4; omega
            · omega
          rw [getD_flip (by omega)] at h2
          exact Classical.not_not.1 h2
        rw [h0] at hmin
        cases hmin
      · obtain ⟨hjun, oj, hoj, hall⟩ := mem_ready.1 hj
        have hjne : j ≠ ops.size - 1 := fun e => hnl (e ▸ hj)
        have hjl : j ∈ i0 :: l0 := ((hl j).1 hjun).resolve_right hjne
        have hj_size : j < listed.size := by have := hlt j hjl; omega
        generalize hL : i0 :: l0 = L at h hl hlt hs hlen hjl
        obtain ⟨pre, post, rfl⟩ := List.append_of_mem hjl
        have hs2 := hs
        rw [List.pairwise_append] at hs2
        have hap : ∀ i ∈ pre, ∃ oi oj, ops[i]? = some oi ∧ ops[j]? = some oj ∧ oi.apart ops oj = true ∧ oj.apart ops oi = true ∧ (movesB oi && movesB oj) = false := by
          intro i hi
          have hp : pairC md ops i j = true := pairsC_spec hpr (hs2.2.2 i hi j (by simp)) (by omega)
          unfold pairC at hp
          cases hoi : ops[i]? with
          | none => simp [hoi] at hp
          | some oi =>
            simp only [hoi, hoj, Bool.or_eq_true, Bool.and_eq_true, Bool.not_eq_true'] at hp
            rcases hp with hp | hp
            · rw [← Array.any_toList, List.any_eq_true] at hp
              obtain ⟨e, he, hp⟩ := hp
              have he' : e ∈ oj.after := by simpa using he
              simp only [Bool.and_eq_true, beq_iff_eq] at hp
              have h3 := hall e he' hp.1
              rw [hp.2] at h3
              have h4 := (hl i).2 (.inl (by simp [hi]))
              have hisz : i < listed.size := by have := hlt i (by simp [hi]); omega
              exact absurd h3 ((getD_flip hisz).1 h4)
            · exact ⟨oi, oj, rfl, hoj, hp.1.1, hp.1.2, hp.2⟩
        obtain ⟨o, ho, hU⟩ := chain_swap hsel pre post a S hap h
        have hsub : (pre ++ post).Sublist (pre ++ j :: post) := List.Sublist.append_left (List.sublist_cons_self _ _) _
        have hjnot : j ∉ pre ++ post := by
          intro hm
          rcases List.mem_append.1 hm with hm | hm
          · have := hs2.2.2 j hm j (by simp); omega
          · have := List.rel_of_pairwise_cons hs2.2.1 hm; omega
        have hlen' : (pre ++ post).length + 1 ≤ fuel := by simp at hlen ⊢; omega
        have hl' : ∀ k, (listed.setIfInBounds j true).getD k true = false ↔ k ∈ pre ++ post ∨ k = ops.size - 1 := by
          intro k
          by_cases e : j = k
          · subst e
            simp [hj_size]
            exact ⟨by simpa using hjnot, hjne⟩
          · rw [getD_set_ne true e, hl k]
            simp only [List.mem_append, List.mem_cons]
            constructor
            · rintro ((h | h | h) | h)
              · exact .inl (.inl h)
              · exact absurd h.symm e
              · exact .inl (.inr h)
              · exact .inr h
            · rintro ((h | h) | h)
              · exact .inl (.inl h)
              · exact .inl (.inr (.inr h))
              · exact .inr h
        have hdn' : Down md ops (listed.setIfInBounds j true) := by
          intro k ok hok hkl e he hb
          by_cases ek : j = k
          · subst ek
            have : oj = ok := Option.some.inj (hoj.symm.trans hok)
            subst this
            exact getD_set_true (hall e he hb)
          · rw [getD_set_ne false ek] at hkl
            exact getD_set_true (hdn k ok hok hkl e he hb)
        have hlt' : ∀ k ∈ pre ++ post, k < ops.size - 1 := fun k hk => hlt k (hsub.subset hk)
        rcases hU with ⟨v, hy, hU⟩ | ⟨v, S', _, hS'B, hlc, hU⟩
        · exact hWv j o v a w _ ho hy (hSB w hS) (ih (pre ++ post) _ _ w S hlen' (by simpa using hsz) hl' hlt' (hs.sublist hsub) hdn' hSB hS hU)
        · exact hWc j o v a w _ S S' ho hlc hS (fun w' hw' => ih (pre ++ post) _ _ w' S' hlen' (by simpa using hsz) hl' hlt' (hs.sublist hsub) hdn' hS'B hw' hU)

theorem listedT (l : List Oper) (last : Oper) (j : Nat) : (Array.replicate (l ++ [last]).toArray.size false).getD j true = false ↔ j ∈ List.range l.length ∨ j = (l ++ [last]).toArray.size - 1 := by
  simp only [List.size_toArray, List.length_append, List.length_cons, List.length_nil, Nat.zero_add, Nat.add_sub_cancel, List.mem_range]
  rcases Nat.lt_or_ge j (l.length + 1) with hj | hj
  · simp [hj]; omega
  · have : ¬ j < l.length + 1 := by omega
    simp [this]; omega

/-- THE BEGINNING, in a round: the operations but the last by the chain, the last by hand. -/
theorem wpRound_region_tail {id : Nat} {a : Act} {w : World} {l : List Oper} {last : Oper} (B S : World → Prop) (hm : P.follows .mixedOrders = true)
    (hB : (chainB .any (l ++ [last]).toArray && deferFreeB (l ++ [last]).toArray && lastB .any (l ++ [last]).toArray) = true) (hS : S w.drew) (hSB : ∀ w, S w → B w)
    (h : ChainO P (l ++ [last]).toArray (fun a w => wpOpIn (Fence.wide.inRound r) n P (l ++ [last]).toArray Q l.length (Q .normal) a w) B l a S) :
    (Code.region id (l ++ [last]).toArray true).wpIn (Fence.wide.inRound r) n P Q a w := by
  unfold chainB at hB
  simp only [Bool.and_eq_true] at hB
  obtain ⟨⟨⟨⟨h1, h2⟩, h3⟩, hd⟩, hl⟩ := hB
  have hsz : (l ++ [last]).toArray.size - 1 = l.length := by simp
  have h' := chainL_of_O (ops := (l ++ [last]).toArray) l 0 a S (fun j hj => by simp [List.getElem?_append_left hj]) h
  rw [← List.range_eq_range'] at h'
  refine wpIn_region_any hm (wpAnyIn_of_G _ _ _ _ (?_ : anyG (wpOpIn (Fence.wide.inRound r) n P (l ++ [last]).toArray Q) .any (l ++ [last]).toArray (Q .normal) (l ++ [last]).toArray.size (Array.replicate (l ++ [last]).toArray.size false) a w.drew))
  refine chain_any_tail (P := P) (B := B) (W := wpOpIn (Fence.wide.inRound r) n P (l ++ [last]).toArray Q) (fun i a w K K' hK hw => wpOpIn_mono hK hw) (fun i o v a w K hi hy hb hk => hy.wpOpRound hd hi hb hk) (fun i o v a w K S S' hi hl hs hk => hl.wpOpRound hd hi hs hk)
    h1 (selFree_spec h2) h3 hl (by simp) (l ++ [last]).toArray.size (List.range l.length) _ a _ S (by simp) (by simp) (listedT l last) (fun j hj => by rw [hsz]; exact List.mem_range.1 hj) List.pairwise_lt_range ?_ hSB hS ?_
  · intro j o _ hj e _ _
    rcases Nat.lt_or_ge j (l ++ [last]).toArray.size with hj2 | hj2
    · simp at hj2; simp [hj2] at hj
    · simp at hj2; simp [show ¬ j < l.length + 1 by omega] at hj
  · rw [hsz]; exact h'
end
end Go
