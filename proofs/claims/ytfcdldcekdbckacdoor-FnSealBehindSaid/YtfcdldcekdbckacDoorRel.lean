/- A region that draws its order, whose operations turn nothing that was there (they read, call, make memory), but for the last, which waits for all the others: each operation yields SOME value that meets a predicate of its own (a pointer to what it has made, wherever that lies): whatever order is drawn. -/
import Derived.Test.YtfcdldcekdbckacDoorChainT
namespace Go
open Go.RowKit
section
variable {P : Program} {ops : Array Oper} {Q : Exit → Act → World → Prop} {md : Region.Mode}

def upd (u : Nat → Value) (i : Nat) (v : Value) : Nat → Value := fun k => if k = i then v else u k

/-- What an operation leads to: a value and a world that meet T; and nothing that was there has turned. -/
def LeadsV (P : Program) (T : Value → World → Prop) (w : World) : Result Next → Prop
  | .ok (.value v) w' => Below w.heap.size w w' ∧ T v w'
  | .ok .skip w' => Below w.heap.size w w' ∧ T undef w'
  | .ok (.enter f args) w1 => Below w.heap.size w w1 ∧ Calls P f args w1 (fun e w' => ∃ v, e = .returned v ∧ Below w1.heap.size w1 w' ∧ T v w')
  | _ => False

def OpV (P : Program) (ops : Array Oper) (T : Value → World → Prop) (o : Oper) (a : Act) (w : World) : Prop :=
  (Region.wanted o (yielded ops a.tmps) = true ∧ LeadsV P T w ((execOp a.eval o).run P w)) ∨
  (Region.wanted o (yielded ops a.tmps) = false ∧ T undef w)

theorem OpV.wpOp {T : Value → World → Prop} {i : Nat} {o : Oper} {a : Act} {w : World} {K : Act → World → Prop} (hi : ops[i]? = some o) (h : OpV P ops T o a w)
    (hK : ∀ v w', Below w.heap.size w w' → T v w' → K (a.put o.dst v) w') : wpOp P ops Q i K a w := by
  unfold Go.wpOp
  simp only [hi]
  rcases h with ⟨hw, hv⟩ | ⟨hw, hv⟩
  · simp only [hw, if_true]
    refine .inl ?_
    unfold Oper.wp
    generalize (execOp a.eval o).run P w = r at hv
    match r, hv with
    | .ok (.value v) w', hv => exact hK v w' hv.1 hv.2
    | .ok .skip w', hv => exact hK undef w' hv.1 hv.2
    | .ok (.enter f args) w1, hv =>
      simp only [Oper.upon]
      refine Calls.mono hv.2 fun e w' he => ?_
      obtain ⟨v, rfl, hb, ht⟩ := he
      exact hK v w' (hv.1.trans (hb.mono hv.1.size)) ht
  · simp only [hw, Bool.false_eq_true, if_false]
    exact hK undef w (Below.refl _ _) hv

/-- The operations ahead of the last, one behind the other in the text: each in whatever world, the operations that it waits for having yielded. -/
def RelL (P : Program) (ops : Array Oper) (md : Region.Mode) (S : World → Prop) (V : Nat → Value → World → Prop) (frame : (Nat → Value) → Act) : Nat → List Oper → Prop
  | _, [] => True
  | i, o :: l => (∀ u w, S w → (∀ e ∈ o.after.toList, Region.binds md e = true → V e.on (u e.on) w) → OpV P ops (V i) o (frame u) w) ∧ RelL P ops md S V frame (i + 1) l
theorem relL_get {S : World → Prop} {V : Nat → Value → World → Prop} {frame : (Nat → Value) → Act} : ∀ (l : List Oper) (k i : Nat) (o : Oper), RelL P ops md S V frame k l → l[i]? = some o →
    (∀ u w, S w → (∀ e ∈ o.after.toList, Region.binds md e = true → V e.on (u e.on) w) → OpV P ops (V (k + i)) o (frame u) w)
  | [], _, _, _, _, h => by simp at h
  | o :: l, k, 0, o', h, ho => by
    obtain rfl : o = o' := by simpa using ho
    exact h.1
  | _ :: l, k, i + 1, o', h, ho => by
    have := relL_get l (k + 1) i o' h.2 (by simpa using ho)
    rw [show k + 1 + i = k + (i + 1) by omega] at this
    exact this

theorem rel_any {E : Act → World → Prop} (S : World → Prop) (V : Nat → Value → World → Prop) (frame : (Nat → Value) → Act)
    (hS : ∀ w w', Below w.heap.size w w' → S w → S w') (hV : ∀ j v w w', Below w.heap.size w w' → V j v w → V j v w')
    (hput : ∀ i o, i < ops.size - 1 → ops[i]? = some o → ∀ u v, (frame u).put o.dst v = frame (upd u i v))
    (hop : ∀ i o, i < ops.size - 1 → ops[i]? = some o → ∀ u w, S w → (∀ e ∈ o.after.toList, Region.binds md e = true → V e.on (u e.on) w) → OpV P ops (V i) o (frame u) w)
    (hlastop : ∀ u w, S w → (∀ j, j < ops.size - 1 → V j (u j) w) → wpOp P ops Q (ops.size - 1) E (frame u) w)
    (hback : backB md ops = true) (hlast : lastB md ops = true) (hpos : 0 < ops.size) : ∀ (fuel : Nat) (l : List Nat) (listed : Array Bool) (u : Nat → Value) (w : World),
    l.length + 1 ≤ fuel → listed.size = ops.size → (∀ j, listed.getD j true = false ↔ j ∈ l ∨ j = ops.size - 1) → (∀ j ∈ l, j < ops.size - 1) → l.Pairwise (· < ·) → Down md ops listed → S w →
    (∀ j, listed.getD j false = true → V j (u j) w) → anyG (wpOp P ops Q) md ops E fuel listed (frame u) w := by
  intro fuel
  induction fuel with
  | zero => intro l listed u w hlen; omega
  | succ fuel ih =>
    intro l listed u w hlen hsz hl hlt hs hdn hSw hVw
    cases l with
    | nil =>
      have hun : listed.getD (ops.size - 1) true = false := (hl _).2 (.inr rfl)
      have hin : ops.size - 1 < listed.size := by omega
      have hlisted : ∀ j, j < ops.size - 1 → listed.getD j false = true := fun j hj => by
        have h1 : ¬ listed.getD j true = false := fun h2 => by
          rcases (hl j).1 h2 with h3 | h3
          · cases h3
          · omega
        rw [getD_flip (by omega)] at h1
        exact Classical.not_not.1 h1
      have hr : ops.size - 1 ∈ Region.ready md ops listed := by
        rw [mem_ready]
        exact ⟨hun, ops[ops.size - 1], Array.getElem?_eq_getElem (by omega), fun e he hb => hlisted _ (back_spec hback (Array.getElem?_eq_getElem (by omega)) e he hb)⟩
      refine ⟨fun h0 => (by rw [h0] at hr; cases hr), fun j hj => ?_⟩
      have hjl : j = ops.size - 1 := by
        rcases (hl j).1 (mem_ready.1 hj).1 with h3 | h3
        · cases h3
        · exact h3
      subst hjl
      refine wpOp_mono (fun a' w' he => ?_) (hlastop u w hSw fun j hj => hVw j (hlisted j hj))
      have hnone : Region.ready md ops (listed.setIfInBounds (ops.size - 1) true) = [] := by
        rw [List.eq_nil_iff_forall_not_mem]
        intro i hi
        have h1 := (mem_ready.1 hi).1
        by_cases e : ops.size - 1 = i
        · subst e; simp [hin] at h1
        · rw [getD_set_ne true e] at h1
          rcases (hl i).1 h1 with h3 | h3
          · cases h3
          · exact e h3.symm
      cases fuel with
      | zero => exact ⟨hnone, he⟩
      | succ f => exact ⟨fun _ => he, by rw [hnone]; intro i hi; cases hi⟩
    | cons i0 l0 =>
      have hi0 := hlt i0 (by simp)
      have hun0 : listed.getD i0 true = false := (hl i0).2 (.inl (by simp))
      have hnl := last_waits hlast hsz hdn (ops.size - 1 - i0) i0 rfl hi0 hun0
      refine ⟨fun h0 => ?_, fun j hj => ?_⟩
      · have hmin : i0 ∈ Region.ready md ops listed := by
          rw [mem_ready]
          refine ⟨hun0, ops[i0]'(by omega), Array.getElem?_eq_getElem (by omega), fun e he hb => ?_⟩
          have h1 := back_spec hback (Array.getElem?_eq_getElem (by omega)) e he hb
          have h2 : ¬ listed.getD e.on true = false := fun h2 => by
            rcases (hl _).1 h2 with h3 | h3
            · rcases List.mem_cons.1 h3 with h4 | h4
              · omega
              · have := List.rel_of_pairwise_cons hs h4; omega
            · omega
          rw [getD_flip (by omega)] at h2
          exact Classical.not_not.1 h2
        rw [h0] at hmin
        cases hmin
      · obtain ⟨hjun, oj, hoj, hall⟩ := mem_ready.1 hj
        have hjne : j ≠ ops.size - 1 := fun e => hnl (e ▸ hj)
        have hjl : j ∈ i0 :: l0 := ((hl j).1 hjun).resolve_right hjne
        have hjlt : j < ops.size - 1 := hlt j hjl
        have hj_size : j < listed.size := by omega
        generalize hL : i0 :: l0 = L at hl hlt hs hlen hjl
        obtain ⟨pre, post, rfl⟩ := List.append_of_mem hjl
        have hs2 := hs
        rw [List.pairwise_append] at hs2
        have hsub : (pre ++ post).Sublist (pre ++ j :: post) := List.Sublist.append_left (List.sublist_cons_self _ _) _
        have hjnot : j ∉ pre ++ post := by
          intro hm
          rcases List.mem_append.1 hm with hm | hm
          · have := hs2.2.2 j hm j (by simp); omega
          · have := List.rel_of_pairwise_cons hs2.2.1 hm; omega
        have hlen' : (pre ++ post).length + 1 ≤ fuel := by simp at hlen ⊢; omega
        have hl' : ∀ k, (listed.setIfInBounds j true).getD k true = false ↔ k ∈ pre ++ post ∨ k = ops.size - 1 := by
          intro k
          by_cases e : j = k
          · subst e
            simp [hj_size]
            exact ⟨by simpa using hjnot, hjne⟩
          · rw [getD_set_ne true e, hl k]
            simp only [List.mem_append, List.mem_cons]
            constructor
            · rintro ((h | h | h) | h)
              · exact .inl (.inl h)
              · exact absurd h.symm e
              · exact .inl (.inr h)
              · exact .inr h
            · rintro ((h | h) | h)
              · exact .inl (.inl h)
              · exact .inl (.inr (.inr h))
              · exact .inr h
        have hdn' : Down md ops (listed.setIfInBounds j true) := by
          intro k ok hok hkl e he hb
          by_cases ek : j = k
          · subst ek
            have : oj = ok := Option.some.inj (hoj.symm.trans hok)
            subst this
            exact getD_set_true (hall e he hb)
          · rw [getD_set_ne false ek] at hkl
            exact getD_set_true (hdn k ok hok hkl e he hb)
        have hlt' : ∀ k ∈ pre ++ post, k < ops.size - 1 := fun k hk => hlt k (hsub.subset hk)
        refine (hop j oj hjlt hoj u w hSw fun e he hb => hVw _ (hall e (by simpa using he) hb)).wpOp hoj fun v w' hbw ht => ?_
        rw [hput j oj hjlt hoj u v]
        refine ih (pre ++ post) _ _ w' hlen' (by simpa using hsz) hl' hlt' (hs.sublist hsub) hdn' (hS _ _ hbw hSw) fun k hk => ?_
        unfold upd
        by_cases e : k = j
        · subst e; simpa using ht
        · rw [if_neg e]
          rw [getD_set_ne false (fun h => e h.symm)] at hk
          exact hV _ _ _ _ hbw (hVw k hk)

/-- The frame with the region's slots left open. -/
def frameOf (a : Act) : List Oper → Nat → (Nat → Value) → Act
  | [], _, _ => a
  | o :: l, i, u => frameOf (a.put o.dst (u i)) l (i + 1) u
/-- No two operations lay their values in one slot. -/
def dstB : List Oper → Bool
  | [] => true
  | o :: l => (l.all fun o' => o.dst.isNone || o'.dst != o.dst) && dstB l

theorem put_none (a : Act) (v : Value) : a.put none v = a := rfl
theorem put_put (a : Act) (d : Option Tmp) (u v : Value) : (a.put d u).put d v = a.put d v := by
  cases d with
  | none => rfl
  | some d =>
    simp only [Act.put]
    congr 1
    apply Array.ext_getElem?
    intro k
    rw [Array.getElem?_setIfInBounds, Array.getElem?_setIfInBounds, Array.getElem?_setIfInBounds]
    simp only [Array.size_setIfInBounds]
    by_cases e : d = k <;> simp [e]
theorem put_comm' (a : Act) {d d' : Option Tmp} (u v : Value) (h : d.isNone = true ∨ d' ≠ d) : (a.put d u).put d' v = (a.put d' v).put d u := by
  cases d with
  | none => rfl
  | some d =>
    cases d' with
    | none => rfl
    | some d' =>
      have hne : ¬ d = d' := by
        rcases h with h | h
        · simp at h
        · exact fun e => h (by rw [e])
      simp only [Act.put]
      congr 1
      apply Array.ext_getElem?
      intro k
      rw [Array.getElem?_setIfInBounds, Array.getElem?_setIfInBounds, Array.getElem?_setIfInBounds, Array.getElem?_setIfInBounds]
      simp only [Array.size_setIfInBounds]
      by_cases e : d = k
      · subst e
        have : ¬ d' = d := fun e => hne e.symm
        simp [this]
      · by_cases e' : d' = k <;> simp [e, e']
theorem put_self (a : Act) (d : Option Tmp) : ∃ v, a.put d v = a := by
  cases d with
  | none => exact ⟨undef, rfl⟩
  | some d =>
    refine ⟨a.tmps.getD d undef, ?_⟩
    simp only [Act.put]
    have : a.tmps.setIfInBounds d (a.tmps.getD d undef) = a.tmps := by
      apply Array.ext_getElem?
      intro k
      rw [Array.getElem?_setIfInBounds]
      by_cases e : d = k
      · subst e
        by_cases hd : d < a.tmps.size <;> simp [hd]
      · simp [e]
    rw [this]
theorem frameOf_low (a : Act) : ∀ (l : List Oper) (k i : Nat) (u : Nat → Value) (v : Value), i < k → frameOf a l k (upd u i v) = frameOf a l k u
  | [], _, _, _, _, _ => rfl
  | o :: l, k, i, u, v, h => by
    unfold frameOf
    have e : upd u i v k = u k := by unfold upd; rw [if_neg (by omega)]
    rw [e]
    exact frameOf_low _ l (k + 1) i u v (by omega)
theorem frameOf_comm (d : Option Tmp) (v : Value) : ∀ (l : List Oper) (a : Act) (k : Nat) (u : Nat → Value), (l.all fun o' => d.isNone || o'.dst != d) = true → (frameOf a l k u).put d v = frameOf (a.put d v) l k u
  | [], _, _, _, _ => rfl
  | o :: l, a, k, u, h => by
    rw [List.all_cons, Bool.and_eq_true] at h
    unfold frameOf
    rw [frameOf_comm d v l _ (k + 1) u h.2]
    congr 1
    refine (put_comm' a v (u k) ?_).symm
    rcases Bool.or_eq_true _ _ ▸ h.1 with h1 | h1
    · exact .inl h1
    · exact .inr (by simpa using h1)
theorem frameOf_put (v : Value) : ∀ (l : List Oper) (a : Act) (k i : Nat) (u : Nat → Value) (o : Oper), dstB l = true → l[i]? = some o → (frameOf a l k u).put o.dst v = frameOf a l k (upd u (k + i) v)
  | [], _, _, _, _, _, _, h => by simp at h
  | o :: l, a, k, 0, u, o', hd, h => by
    obtain rfl : o = o' := by simpa using h
    unfold dstB at hd
    rw [Bool.and_eq_true] at hd
    rw [Nat.add_zero]
    unfold frameOf
    rw [frameOf_comm o.dst v l _ (k + 1) u hd.1, put_put, frameOf_low _ l (k + 1) k u v (by omega)]
    have e : upd u k v k = v := by unfold upd; rw [if_pos rfl]
    rw [e]
  | o :: l, a, k, i + 1, u, o', hd, h => by
    unfold dstB at hd
    rw [Bool.and_eq_true] at hd
    unfold frameOf
    have e : upd u (k + (i + 1)) v k = u k := by unfold upd; rw [if_neg (by omega)]
    rw [frameOf_put v l _ (k + 1) i u o' hd.2 (by simpa using h), e, show k + 1 + i = k + (i + 1) by omega]
theorem frameOf_init (a : Act) : ∀ (l : List Oper) (k : Nat), ∃ u, a = frameOf a l k u
  | [], _ => ⟨fun _ => undef, rfl⟩
  | o :: l, k => by
    obtain ⟨u, hu⟩ := frameOf_init a l (k + 1)
    obtain ⟨v, hv⟩ := put_self a o.dst
    refine ⟨upd u k v, ?_⟩
    unfold frameOf
    have e : upd u k v k = v := by unfold upd; rw [if_pos rfl]
    rw [e, hv, frameOf_low _ l (k + 1) k u v (by omega)]
    exact hu

/-- THE BEGINNING. -/
theorem wp_region_rel {id : Nat} {a : Act} {w : World} {l : List Oper} {last : Oper} (S : World → Prop) (Vs : List (Value → World → Prop)) (hm : P.follows .mixedOrders = true)
    (hB : (backB .any (l ++ [last]).toArray && lastB .any (l ++ [last]).toArray && dstB l) = true) (hS0 : S w.drew)
    (hS : ∀ w w', Below w.heap.size w w' → S w → S w') (hV : ∀ T ∈ Vs, ∀ v w w', Below w.heap.size w w' → T v w → T v w')
    (h : RelL P (l ++ [last]).toArray .any S (fun j => Vs.getD j (fun _ _ => True)) (frameOf a l 0) 0 l)
    (hlast : ∀ u w, S w → (∀ j, j < l.length → (Vs.getD j (fun _ _ => True)) (u j) w) → wpOp P (l ++ [last]).toArray Q l.length (Q .normal) (frameOf a l 0 u) w) :
    (Code.region id (l ++ [last]).toArray true).wp P Q a w := by
  simp only [Bool.and_eq_true] at hB
  obtain ⟨⟨h1, h2⟩, hdst⟩ := hB
  have hsz : (l ++ [last]).toArray.size - 1 = l.length := by simp
  have hget : ∀ i o, i < l.length → (l ++ [last]).toArray[i]? = some o → l[i]? = some o := fun i o hi ho => by
    simpa [List.getElem?_append_left hi] using ho
  refine wp_region_any hm (wpAny_of_G _ _ _ _ (?_ : anyG (wpOp P (l ++ [last]).toArray Q) .any (l ++ [last]).toArray (Q .normal) (l ++ [last]).toArray.size (Array.replicate (l ++ [last]).toArray.size false) a w.drew))
  obtain ⟨u0, hu0⟩ := frameOf_init a l 0
  rw [hu0]
  refine rel_any (P := P) (E := Q .normal) S (fun j => Vs.getD j (fun _ _ => True)) (frameOf a l 0) hS (fun j v w w' hb hv => ?_) (fun i o hi ho u v => ?_) (fun i o hi ho => ?_) (fun u w hSw hVw => ?_) h1 h2 (by simp)
    (l ++ [last]).toArray.size (List.range l.length) _ _ _ (by simp) (by simp) (listedT l last) (fun j hj => by rw [hsz]; exact List.mem_range.1 hj) List.pairwise_lt_range ?_ hS0 ?_
  · by_cases hj : j < Vs.length
    · have e : Vs.getD j (fun _ _ => True) = Vs[j] := by simp [hj]
      simp only [e] at hv ⊢
      exact hV _ (List.getElem_mem hj) _ _ _ hb hv
    · have e : Vs.getD j (fun _ _ => True) = fun _ _ => True := by simp [List.getElem?_eq_none (Nat.le_of_not_lt hj)]
      simp only [e]
  · have := frameOf_put v l a 0 i u o hdst (hget i o (by omega) ho)
    rwa [Nat.zero_add] at this
  · have := relL_get l 0 i o h (hget i o (by omega) ho)
    rwa [Nat.zero_add] at this
  · rw [hsz]
    exact hlast u w hSw (fun j hj => hVw j (by omega))
  · intro j o _ hj e _ _
    rcases Nat.lt_or_ge j (l ++ [last]).toArray.size with hj2 | hj2
    · simp at hj2; simp [hj2] at hj
    · simp at hj2; simp [show ¬ j < l.length + 1 by omega] at hj
  · intro j hj
    rcases Nat.lt_or_ge j (l ++ [last]).toArray.size with hj2 | hj2
    · simp at hj2; simp [hj2] at hj
    · simp at hj2; simp [show ¬ j < l.length + 1 by omega] at hj
end
end Go
