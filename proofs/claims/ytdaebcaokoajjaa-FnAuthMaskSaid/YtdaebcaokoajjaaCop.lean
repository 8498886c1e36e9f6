/- A copy of bytes: 'append([]byte(nil), b...)'. -/
import Derived.Test.YtdaebcaokoajjaaProd
import Derived.Test.YtdaebcaokoajjaaRelK
import Derived.Deep.AppendSrc
import Derived.OwnWalk
namespace Go
/-- The builtin append, its run given. -/
theorem wpList_append_run {P : Program} {w w' : World} {ops : Array Oper} {rest : List Oper} {o : Oper} {a : Act} {Q : Exit → Act → World → Prop} {v' : Value}
    (hg : o.guard = none) (s x : Operand) (t t' : TypeId) (hop : o.op = Op.call { callee := Callee.builtin Builtin.append, args := #[s, x], argTypes := #[t, t'] })
    (sv xv : Value) (hs : a.eval s = sv) (hx : a.eval x = xv) (hrun : (Builtin.append_ #[t, t'] o.type #[sv, xv]).run P w = .ok v' w') (hK : wpList P ops Q rest (a.put o.dst v') w') : wpList P ops Q (o :: rest) a w := by
  refine wpList_plain hg fun K hK' => ?_
  unfold Oper.wp
  simp [execOp, hop, resolve, invoke, builtin, hs, hx, hrun, Result.andThen]
  exact hK' _ _ hK
end Go
namespace Go.Proofs.Ytdaebcaokoajjaa
open Go Go.RowKit Gf

theorem info5 : ∃ i, Try.prog.info? 5 = some i ∧ i.size = 1 ∧ i.bytes = 1 ∧ i.zero = some (.int .u8 0) := by
  have h : (Try.prog.info? 5).map (fun i => (i.size, i.bytes, i.zero)) = some (1, 1, some (.int .u8 0)) := by kernel_rfl
  cases hq : Try.prog.info? 5 with
  | none => rw [hq] at h; cases h
  | some i =>
    rw [hq] at h
    have h' := Option.some.inj h
    simp only [Prod.mk.injEq] at h'
    exact ⟨i, rfl, h'.1, h'.2.1, h'.2.2⟩
theorem info35 : ∃ i, Try.prog.info? 35 = some i ∧ i.size = 1 ∧ i.bytes = 24 ∧ i.zero = some (.slice none 0 0) := by
  have h : (Try.prog.info? 35).map (fun i => (i.size, i.bytes, i.zero)) = some (1, 24, some (.slice none 0 0)) := by kernel_rfl
  cases hq : Try.prog.info? 35 with
  | none => rw [hq] at h; cases h
  | some i =>
    rw [hq] at h
    have h' := Option.some.inj h
    simp only [Prod.mk.injEq] at h'
    exact ⟨i, rfl, h'.1, h'.2.1, h'.2.2⟩

/-- A slice of bytes that holds bs, in a block at or behind n0 (or empty). -/
def rowOf (n0 : Nat) (bs : List (BitVec 8)) : Value → World → Prop := fun v W =>
  ∃ (p : Option Addr) (c : Nat), v = .slice p bs.length c ∧ bs.length ≤ c ∧ (c : Int) ≤ 9223372036854775807 ∧
    (bs = [] ∨ ∃ b o, p = some ⟨b, o, none⟩ ∧ n0 ≤ b ∧ b < W.heap.size ∧ ∀ i x, bs[i]? = some x → W.cell? ⟨b, o + i, none⟩ = some (.int .u8 (n8 x)))
theorem stab_rowOf (n0 : Nat) (bs : List (BitVec 8)) : Stab (rowOf n0 bs) := by
  rintro v w w' hb ⟨p, c, h1, h2, h3, h4⟩
  refine ⟨p, c, h1, h2, h3, h4.imp id ?_⟩
  rintro ⟨b, o, h5, h6, h7, h8⟩
  exact ⟨b, o, h5, h6, Nat.lt_of_lt_of_le h7 hb.size, fun i x hx => (cell_same (hb.block b h7) _).trans (h8 i x hx)⟩
theorem rowOf.mono {n0 n1 : Nat} {bs : List (BitVec 8)} {v : Value} {w : World} (h : rowOf n0 bs v w) (hn : n1 ≤ n0) : rowOf n1 bs v w := by
  obtain ⟨p, c, h1, h2, h3, h4⟩ := h
  refine ⟨p, c, h1, h2, h3, h4.imp id ?_⟩
  rintro ⟨b, o, h5, h6, h7, h8⟩
  exact ⟨b, o, h5, by omega, h7, h8⟩
theorem rowOf.rowAt {n0 Y : Nat} {bs : List (BitVec 8)} {v : Value} {w : World} (h : rowOf n0 bs v w) (hY : Y < n0 ∨ w.heap.size ≤ Y) : RowAt Y w v bs := by
  obtain ⟨p, c, h1, h2, h3, h4⟩ := h
  refine ⟨p, c, h1, h2, h3, h4.imp id ?_⟩
  rintro ⟨b, o, h5, h6, h7, h8⟩
  exact ⟨b, o, h5, by omega, h7, h8⟩

def bcells (bs : List (BitVec 8)) : List Value := bs.map fun x => .int .u8 (n8 x)
theorem bcells_get (bs : List (BitVec 8)) (i : Nat) : (bcells bs)[i]? = (bs[i]?).map fun x => .int .u8 (n8 x) := by simp [bcells]

theorem run_copied (w : World) (bs : List (BitVec 8)) (v : Value) (ty : TypeId) (h : rowOf 0 bs v w) (hlen : bs.length ≤ 281474976710656) :
    ∃ v' w', (Builtin.append_ #[35, 35] ty #[.slice none 0 0, v]).run Try.prog w = .ok v' w' ∧ rowOf w.heap.size bs v' w' ∧ Below w.heap.size w w' := by
  obtain ⟨p, c, rfl, h2, h3, h4⟩ := h
  obtain ⟨i, hi, hs, hb, hz⟩ := info5
  by_cases hbs : bs = []
  · subst hbs
    refine ⟨.slice none 0 0, w, ?_, ⟨none, 0, rfl, by simp, by decide, .inl rfl⟩, Below.refl _ _⟩
    cases p <;> simp [Builtin.append_, run_underlying Try.underlying35, sizeOf, typeInfo, hi, Builtin.lenOf, Builtin.firstCells, loadCells, loadCellsFrom]
  · obtain ⟨b, o, rfl, _, h7, h8⟩ := h4.resolve_left hbs
    have hpos : 0 < bs.length := List.length_pos_iff.2 hbs
    have hrun := run_append_nil (P := Try.prog) (w := w) 35 ty 5 i (.int .u8 0) Try.underlying35 hi hz ⟨b, o, none⟩ bs.length c (bcells bs) (by rw [hs]; simp [bcells]) (fun j u hu => by
      rw [bcells_get] at hu
      obtain ⟨x, hx, rfl⟩ := Option.map_eq_some_iff.1 hu
      rw [Addr.add_mid]
      exact h8 j x hx) hpos (by omega) (by rw [hb]; omega)
    refine ⟨_, _, hrun, ⟨_, _, rfl, grownCap_ge _ _ _ _, ?_, .inr ⟨w.heap.size, 0, rfl, Nat.le_refl _, by simp, fun j x hx => ?_⟩⟩, ((Below.refl _ _).drew).alloc (by simp) _⟩
    · have := grownCap_le_maxLen w bs.length 0 5 (by simp only [maxLen]; omega)
      simp only [maxLen] at this
      omega
    · have hj : j < bs.length := (List.getElem?_eq_some_iff.1 hx).1
      have hnew : objAt (w.drew.alloc (.cells ((bcells bs).toArray ++ Builtin.zeroCells (Value.int .u8 0).cells (grownCap w bs.length 0 5 - bs.length)) 5)) w.heap.size = some (.cells ((bcells bs).toArray ++ Builtin.zeroCells (Value.int .u8 0).cells (grownCap w bs.length 0 5 - bs.length)) 5 (0, 0)) := objAt_alloc_at _ _ _ rfl
      rw [Nat.zero_add, objAt_cell hnew j, Array.getElem?_append_left (by simp [bcells]; exact hj)]
      have := bcells_get bs j
      rw [hx] at this
      simpa using this

set_option maxHeartbeats 1000000 in
theorem copied_any (w : World) (bs : List (BitVec 8)) (v : Value) (h : rowOf 0 bs v w) (hlen : bs.length ≤ 281474976710656) :
    Calls Try.prog 46 #[v] w fun e w' => ∃ v', e = .returned v' ∧ Below w.heap.size w w' ∧ rowOf w.heap.size bs v' w' := by
  obtain ⟨v', w', hrun, hr, hb⟩ := run_copied w bs v 35 h hlen
  have hb' := Lib.hid hb
  clear hb h
  go_enter Try.func46, Try.ntmps46
  go_wp2_with (at_builtin; refine wpList_append_run rfl _ _ _ _ rfl _ _ rfl rfl hrun ?_; clear hrun)
  go_ret
  exact ⟨v', rfl, hb'.out, hr⟩
end Go.Proofs.Ytdaebcaokoajjaa
