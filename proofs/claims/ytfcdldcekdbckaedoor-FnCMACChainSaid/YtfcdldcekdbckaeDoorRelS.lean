/- A region that draws its order, with operations that turn memory which the region itself has made, and among them a store: what the store leaves is said of the address that another operation has yielded. -/
import Derived.Test.YtfcdldcekdbckaeDoorRelK
namespace Go
open Go.RowKit
section
variable {P : Program} {ops : Array Oper} {Q : Exit → Act → World → Prop} {md : Region.Mode}

/-- All operations that are not free wait for i (by way of operations that are not free). -/
def shutB (md : Region.Mode) (ops : Array Oper) (i : Nat) (free : List Nat) : Bool :=
  (List.range ops.size).all fun j => free.contains j || j == i || (match ops[j]? with
    | some o => o.after.any fun e => Region.binds md e && (e.on == i || !free.contains e.on)
    | none => true)
theorem shut_spec {listed : Array Bool} {i : Nat} {free : List Nat} (hback : backB md ops = true) (hdn : Down md ops listed) (hsz : listed.size = ops.size) (h : shutB md ops i free = true) (hi : listed.getD i false ≠ true) :
    ∀ (n k : Nat), k < n → listed.getD k false = true → k ∈ free
  | 0, _, hk, _ => by omega
  | n + 1, k, hk, hl => by
    have hks : k < ops.size := by
      rcases Nat.lt_or_ge k listed.size with h' | h'
      · omega
      · simp [Array.getElem?_eq_none h'] at hl
    have h1 := h
    unfold shutB at h1
    rw [List.all_eq_true] at h1
    have h2 := h1 k (List.mem_range.2 hks)
    rw [Array.getElem?_eq_getElem hks] at h2
    simp only [Bool.or_eq_true, List.contains_iff_mem, beq_iff_eq] at h2
    rcases h2 with (h2 | h2) | h2
    · exact h2
    · exact absurd (h2 ▸ hl) hi
    · rw [← Array.any_toList, List.any_eq_true] at h2
      obtain ⟨e, he, h3⟩ := h2
      simp only [Bool.and_eq_true, Bool.or_eq_true, beq_iff_eq, Bool.not_eq_true'] at h3
      have he' : e ∈ ops[k].after := by simpa using he
      have h4 := hdn k ops[k] (Array.getElem?_eq_getElem hks) hl e he' h3.1
      rcases h3.2 with h5 | h5
      · exact absurd (h5 ▸ h4) hi
      · have h6 := back_spec hback (Array.getElem?_eq_getElem hks) e he' h3.1
        have h7 := shut_spec hback hdn hsz h hi n e.on (by omega) h4
        rw [← List.contains_iff_mem] at h7
        rw [h7] at h5
        cases h5

/-- What is known of each operation: of the value that it has yielded; of the operation s, of the value that p has yielded. -/
def VS (s p : Nat) (T : Value → World → Prop) (Vs : Nat → Value → World → Prop) (j : Nat) (u : Nat → Value) (w : World) : Prop := if j = s then T (u p) w else Vs j (u j) w
/-- An operation that turns the world: it yields a value at once, and keeps what is free. -/
def OpS (P : Program) (ops : Array Oper) (md : Region.Mode) (S : World → Prop) (V : Nat → (Nat → Value) → World → Prop) (u : Nat → Value) (i : Nat) (o : Oper) (a : Act) (w : World) : Prop :=
  ∃ free : List Nat, Region.wanted o (yielded ops a.tmps) = true ∧ shutB md ops i free = true ∧ ∃ v w', ((execOp a.eval o).run P w = .ok (.value v) w' ∨ ((execOp a.eval o).run P w = .ok .skip w' ∧ v = undef)) ∧ S w' ∧ (∀ j ∈ free, V j u w → V j u w') ∧ V i (upd u i v) w'

def RelLS (P : Program) (ops : Array Oper) (md : Region.Mode) (S : World → Prop) (V : Nat → (Nat → Value) → World → Prop) (frame : (Nat → Value) → Act) : Nat → List Oper → Prop
  | _, [] => True
  | i, o :: l => (∀ u w, S w → (∀ e ∈ o.after.toList, Region.binds md e = true → V e.on u w) → OpV P ops (fun v w' => V i (upd u i v) w') o (frame u) w ∨ OpS P ops md S V u i o (frame u) w) ∧ RelLS P ops md S V frame (i + 1) l
theorem relLS_get {S : World → Prop} {V : Nat → (Nat → Value) → World → Prop} {frame : (Nat → Value) → Act} : ∀ (l : List Oper) (k i : Nat) (o : Oper), RelLS P ops md S V frame k l → l[i]? = some o →
    (∀ u w, S w → (∀ e ∈ o.after.toList, Region.binds md e = true → V e.on u w) → OpV P ops (fun v w' => V (k + i) (upd u (k + i) v) w') o (frame u) w ∨ OpS P ops md S V u (k + i) o (frame u) w)
  | [], _, _, _, _, h => by simp at h
  | o :: l, k, 0, o', h, ho => by
    obtain rfl : o = o' := by simpa using ho
    exact h.1
  | _ :: l, k, i + 1, o', h, ho => by
    have := relLS_get l (k + 1) i o' h.2 (by simpa using ho)
    rw [show k + 1 + i = k + (i + 1) by omega] at this
    exact this

theorem rels_any {E : Act → World → Prop} (S : World → Prop) (V : Nat → (Nat → Value) → World → Prop) (frame : (Nat → Value) → Act)
    (hS : ∀ w w', Below w.heap.size w w' → S w → S w') (hV : ∀ j v w w', Below w.heap.size w w' → V j v w → V j v w')
    (hloc : ∀ k ok, ops[k]? = some ok → ∀ u i v w, i ≠ k → (∀ e ∈ ok.after, Region.binds md e = true → e.on ≠ i) → V k u w → V k (upd u i v) w)
    (hput : ∀ i o, i < ops.size - 1 → ops[i]? = some o → ∀ u v, (frame u).put o.dst v = frame (upd u i v))
    (hop : ∀ i o, i < ops.size - 1 → ops[i]? = some o → ∀ u w, S w → (∀ e ∈ o.after.toList, Region.binds md e = true → V e.on u w) → OpV P ops (fun v w' => V i (upd u i v) w') o (frame u) w ∨ OpS P ops md S V u i o (frame u) w)
    (hlastop : ∀ u w, S w → (∀ j, j < ops.size - 1 → V j u w) → wpOp P ops Q (ops.size - 1) E (frame u) w)
    (hback : backB md ops = true) (hlast : lastB md ops = true) (hpos : 0 < ops.size) : ∀ (fuel : Nat) (l : List Nat) (listed : Array Bool) (u : Nat → Value) (w : World),
    l.length + 1 ≤ fuel → listed.size = ops.size → (∀ j, listed.getD j true = false ↔ j ∈ l ∨ j = ops.size - 1) → (∀ j ∈ l, j < ops.size - 1) → l.Pairwise (· < ·) → Down md ops listed → S w →
    (∀ j, listed.getD j false = true → V j u w) → anyG (wpOp P ops Q) md ops E fuel listed (frame u) w := by
  intro fuel
  induction fuel with
  | zero => intro l listed u w hlen; omega
  | succ fuel ih =>
    intro l listed u w hlen hsz hl hlt hs hdn hSw hVw
    cases l with
    | nil =>
      have hun : listed.getD (ops.size - 1) true = false := (hl _).2 (.inr rfl)
      have hin : ops.size - 1 < listed.size := by omega
      have hlisted : ∀ j, j < ops.size - 1 → listed.getD j false = true := fun j hj => by
        have h1 : ¬ listed.getD j true = false := fun h2 => by
          rcases (hl j).1 h2 with h3 | h3
          · cases h3
          · omega
        rw [getD_flip (by omega)] at h1
        exact Classical.not_not.1 h1
      have hr : ops.size - 1 ∈ Region.ready md ops listed := by
        rw [mem_ready]
        exact ⟨hun, ops[ops.size - 1], Array.getElem?_eq_getElem (by omega), fun e he hb => hlisted _ (back_spec hback (Array.getElem?_eq_getElem (by omega)) e he hb)⟩
      refine ⟨fun h0 => (by rw [h0] at hr; cases hr), fun j hj => ?_⟩
      have hjl : j = ops.size - 1 := by
        rcases (hl j).1 (mem_ready.1 hj).1 with h3 | h3
        · cases h3
        · exact h3
      subst hjl
      refine wpOp_mono (fun a' w' he => ?_) (hlastop u w hSw fun j hj => hVw j (hlisted j hj))
      have hnone : Region.ready md ops (listed.setIfInBounds (ops.size - 1) true) = [] := by
        rw [List.eq_nil_iff_forall_not_mem]
        intro i hi
        have h1 := (mem_ready.1 hi).1
        by_cases e : ops.size - 1 = i
        · subst e; simp [hin] at h1
        · rw [getD_set_ne true e] at h1
          rcases (hl i).1 h1 with h3 | h3
          · cases h3
          · exact e h3.symm
      cases fuel with
      | zero => exact ⟨hnone, he⟩
      | succ f => exact ⟨fun _ => he, by rw [hnone]; intro i hi; cases hi⟩
    | cons i0 l0 =>
      have hi0 := hlt i0 (by simp)
      have hun0 : listed.getD i0 true = false := (hl i0).2 (.inl (by simp))
      have hnl := last_waits hlast hsz hdn (ops.size - 1 - i0) i0 rfl hi0 hun0
      refine ⟨fun h0 => ?_, fun j hj => ?_⟩
      · have hmin : i0 ∈ Region.ready md ops listed := by
          rw [mem_ready]
          refine ⟨hun0, ops[i0]'(by omega), Array.getElem?_eq_getElem (by omega), fun e he hb => ?_⟩
          have h1 := back_spec hback (Array.getElem?_eq_getElem (by omega)) e he hb
          have h2 : ¬ listed.getD e.on true = false := fun h2 => by
            rcases (hl _).1 h2 with h3 | h3
            · rcases List.mem_cons.1 h3 with h4 | h4
              · omega
              · have := List.rel_of_pairwise_cons hs h4; omega
            · omega
          rw [getD_flip (by omega)] at h2
          exact Classical.not_not.1 h2
        rw [h0] at hmin
        cases hmin
      · obtain ⟨hjun, oj, hoj, hall⟩ := mem_ready.1 hj
        have hjne : j ≠ ops.size - 1 := fun e => hnl (e ▸ hj)
        have hjl : j ∈ i0 :: l0 := ((hl j).1 hjun).resolve_right hjne
        have hjlt : j < ops.size - 1 := hlt j hjl
        have hj_size : j < listed.size := by omega
        generalize hL : i0 :: l0 = L at hl hlt hs hlen hjl
        obtain ⟨pre, post, rfl⟩ := List.append_of_mem hjl
        have hs2 := hs
        rw [List.pairwise_append] at hs2
        have hsub : (pre ++ post).Sublist (pre ++ j :: post) := List.Sublist.append_left (List.sublist_cons_self _ _) _
        have hjnot : j ∉ pre ++ post := by
          intro hm
          rcases List.mem_append.1 hm with hm | hm
          · have := hs2.2.2 j hm j (by simp); omega
          · have := List.rel_of_pairwise_cons hs2.2.1 hm; omega
        have hlen' : (pre ++ post).length + 1 ≤ fuel := by simp at hlen ⊢; omega
        have hl' : ∀ k, (listed.setIfInBounds j true).getD k true = false ↔ k ∈ pre ++ post ∨ k = ops.size - 1 := by
          intro k
          by_cases e : j = k
          · subst e
            simp [hj_size]
            exact ⟨by simpa using hjnot, hjne⟩
          · rw [getD_set_ne true e, hl k]
            simp only [List.mem_append, List.mem_cons]
            constructor
            · rintro ((h | h | h) | h)
              · exact .inl (.inl h)
              · exact absurd h.symm e
              · exact .inl (.inr h)
              · exact .inr h
            · rintro ((h | h) | h)
              · exact .inl (.inl h)
              · exact .inl (.inr (.inr h))
              · exact .inr h
        have hdn' : Down md ops (listed.setIfInBounds j true) := by
          intro k ok hok hkl e he hb
          by_cases ek : j = k
          · subst ek
            have : oj = ok := Option.some.inj (hoj.symm.trans hok)
            subst this
            exact getD_set_true (hall e he hb)
          · rw [getD_set_ne false ek] at hkl
            exact getD_set_true (hdn k ok hok hkl e he hb)
        have hlt' : ∀ k ∈ pre ++ post, k < ops.size - 1 := fun k hk => hlt k (hsub.subset hk)
        have hjf : listed.getD j false ≠ true := (getD_flip hj_size).1 hjun
        have hgo : ∀ v w', S w' → (∀ k, listed.getD k false = true → V k u w') → V j (upd u j v) w' → anyG (wpOp P ops Q) md ops E fuel (listed.setIfInBounds j true) ((frame u).put oj.dst v) w' := by
          intro v w' hS' hV' ht
          rw [hput j oj hjlt hoj u v]
          refine ih (pre ++ post) _ _ w' hlen' (by simpa using hsz) hl' hlt' (hs.sublist hsub) hdn' hS' fun k hk => ?_
          by_cases e : k = j
          · subst e; exact ht
          · rw [getD_set_ne false (fun h => e h.symm)] at hk
            have hks : k < ops.size := by
              rcases Nat.lt_or_ge k listed.size with h' | h'
              · omega
              · simp [Array.getElem?_eq_none h'] at hk
            exact hloc k ops[k] (Array.getElem?_eq_getElem hks) u j v w' (fun h => e h.symm) (fun e1 he1 hb1 h1 => by
              have := hdn k ops[k] (Array.getElem?_eq_getElem hks) hk e1 he1 hb1
              rw [h1] at this
              exact hjf this) (hV' k hk)
        rcases hop j oj hjlt hoj u w hSw (fun e he hb => hVw _ (hall e (by simpa using he) hb)) with hO | ⟨free, hw, hsh, v, w', hrun, hS', hF, ht⟩
        · exact hO.wpOp hoj fun v w' hbw ht => hgo v w' (hS _ _ hbw hSw) (fun k hk => hV _ _ _ _ hbw (hVw k hk)) ht
        · have hk : wpOp P ops Q j (fun a' w' => anyG (wpOp P ops Q) md ops E fuel (listed.setIfInBounds j true) a' w') (frame u) w := by
            unfold Go.wpOp
            simp only [hoj, hw, if_true]
            refine .inl ?_
            unfold Oper.wp
            rcases hrun with hrun | ⟨hrun, rfl⟩
            · rw [hrun]
              exact hgo v w' hS' (fun k hk => hF k (shut_spec hback hdn hsz hsh hjf (k + 1) k (Nat.lt_succ_self k) hk) (hVw k hk)) ht
            · rw [hrun]
              exact hgo _ w' hS' (fun k hk => hF k (shut_spec hback hdn hsz hsh hjf (k + 1) k (Nat.lt_succ_self k) hk) (hVw k hk)) ht
          exact hk

/-- THE BEGINNING. -/
theorem wp_region_rels {id : Nat} {a : Act} {w : World} {l : List Oper} {last : Oper} (s p : Nat) (T : Value → World → Prop) (S : World → Prop) (Vs : List (Value → World → Prop)) (hm : P.follows .mixedOrders = true)
    (hB : (backB .any (l ++ [last]).toArray && lastB .any (l ++ [last]).toArray && dstB l && ((l ++ [last])[s]?.all fun o => o.after.any fun e => Region.binds .any e && e.on == p) && p != s) = true) (hS0 : S w.drew)
    (hS : ∀ w w', Below w.heap.size w w' → S w → S w') (hV : ∀ T' ∈ T :: Vs, ∀ v w w', Below w.heap.size w w' → T' v w → T' v w')
    (h : RelLS P (l ++ [last]).toArray .any S (VS s p T fun j => Vs.getD j (fun _ _ => True)) (frameOf a l 0) 0 l)
    (hlast : ∀ u w, S w → (∀ j, j < l.length → VS s p T (fun j => Vs.getD j (fun _ _ => True)) j u w) → wpOp P (l ++ [last]).toArray Q l.length (Q .normal) (frameOf a l 0 u) w) :
    (Code.region id (l ++ [last]).toArray true).wp P Q a w := by
  simp only [Bool.and_eq_true] at hB
  obtain ⟨⟨⟨⟨h1, h2⟩, hdst⟩, hlk⟩, hps⟩ := hB
  have hps' : p ≠ s := by simpa using hps
  have hsz : (l ++ [last]).toArray.size - 1 = l.length := by simp
  have hget : ∀ i o, i < l.length → (l ++ [last]).toArray[i]? = some o → l[i]? = some o := fun i o hi ho => by
    simpa [List.getElem?_append_left hi] using ho
  refine wp_region_any hm (wpAny_of_G _ _ _ _ (?_ : anyG (wpOp P (l ++ [last]).toArray Q) .any (l ++ [last]).toArray (Q .normal) (l ++ [last]).toArray.size (Array.replicate (l ++ [last]).toArray.size false) a w.drew))
  obtain ⟨u0, hu0⟩ := frameOf_init a l 0
  rw [hu0]
  refine rels_any (P := P) (E := Q .normal) S (VS s p T fun j => Vs.getD j (fun _ _ => True)) (frameOf a l 0) hS (fun j v w w' hb hv => ?_) (fun k ok hok u i v w hik haf hv => ?_) (fun i o hi ho u v => ?_) (fun i o hi ho => ?_) (fun u w hSw hVw => ?_) h1 h2 (by simp)
    (l ++ [last]).toArray.size (List.range l.length) _ _ _ (by simp) (by simp) (listedT l last) (fun j hj => by rw [hsz]; exact List.mem_range.1 hj) List.pairwise_lt_range ?_ hS0 ?_
  · unfold VS at hv ⊢
    by_cases hjs : j = s
    · rw [if_pos hjs] at hv ⊢
      exact hV T (by simp) _ _ _ hb hv
    · rw [if_neg hjs] at hv ⊢
      by_cases hj : j < Vs.length
      · have e : Vs.getD j (fun _ _ => True) = Vs[j] := by simp [hj]
        simp only [e] at hv ⊢
        exact hV _ (List.mem_cons_of_mem _ (List.getElem_mem hj)) _ _ _ hb hv
      · have e : Vs.getD j (fun _ _ => True) = fun _ _ => True := by simp [List.getElem?_eq_none (Nat.le_of_not_lt hj)]
        simp only [e]
  · unfold VS at hv ⊢
    by_cases hks : k = s
    · rw [if_pos hks] at hv ⊢
      have hne : p ≠ i := by
        rw [← hks] at hlk
        have hok' : (l ++ [last])[k]? = some ok := by simpa using hok
        rw [hok'] at hlk
        simp only [Option.all_some] at hlk
        rw [← Array.any_toList, List.any_eq_true] at hlk
        obtain ⟨e, he, h3⟩ := hlk
        simp only [Bool.and_eq_true, beq_iff_eq] at h3
        rw [← h3.2]
        exact haf e (by simpa using he) h3.1
      rw [show upd u i v p = u p by unfold upd; rw [if_neg hne]]
      exact hv
    · rw [if_neg hks] at hv ⊢
      rw [show upd u i v k = u k by unfold upd; rw [if_neg (fun h => hik h.symm)]]
      exact hv
  · have := frameOf_put v l a 0 i u o hdst (hget i o (by omega) ho)
    rwa [Nat.zero_add] at this
  · have := relLS_get l 0 i o h (hget i o (by omega) ho)
    rwa [Nat.zero_add] at this
  · rw [hsz]
    exact hlast u w hSw (fun j hj => hVw j (by omega))
  · intro j o _ hj e _ _
    rcases Nat.lt_or_ge j (l ++ [last]).toArray.size with hj2 | hj2
    · simp at hj2; simp [hj2] at hj
    · simp at hj2; simp [show ¬ j < l.length + 1 by omega] at hj
  · intro j hj
    rcases Nat.lt_or_ge j (l ++ [last]).toArray.size with hj2 | hj2
    · simp at hj2; simp [hj2] at hj
    · simp at hj2; simp [show ¬ j < l.length + 1 by omega] at hj
end
end Go
