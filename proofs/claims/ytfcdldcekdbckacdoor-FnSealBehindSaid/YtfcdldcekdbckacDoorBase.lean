/- Rows of bytes: as lists, in memory, copied, made, written into a block. -/
import Derived.Test.YtfcdldcekdbckacDoorBlk
import Derived.Test.YtfcdldcekdbckacDoorRelK
import Derived.Laws.CopyRow
import Derived.Deep.MidRow
import Derived.Deep.AppendSrc
import Derived.OwnWalk
namespace Go
/-- The builtin append, its run given. -/
theorem wpList_append_run {P : Program} {w w' : World} {ops : Array Oper} {rest : List Oper} {o : Oper} {a : Act} {Q : Exit → Act → World → Prop} {v' : Value}
    (hg : o.guard = none) (s x : Operand) (t t' : TypeId) (hop : o.op = Op.call { callee := Callee.builtin Builtin.append, args := #[s, x], argTypes := #[t, t'] })
    (sv xv : Value) (hs : a.eval s = sv) (hx : a.eval x = xv) (hrun : (Builtin.append_ #[t, t'] o.type #[sv, xv]).run P w = .ok v' w') (hK : wpList P ops Q rest (a.put o.dst v') w') : wpList P ops Q (o :: rest) a w := by
  refine wpList_plain hg fun K hK' => ?_
  unfold Oper.wp
  simp [execOp, hop, resolve, invoke, builtin, hs, hx, hrun, Result.andThen]
  exact hK' _ _ hK
/-- The builtin copy, its run given. -/
theorem wpList_copy_run {P : Program} {w w' : World} {ops : Array Oper} {rest : List Oper} {o : Oper} {a : Act} {Q : Exit → Act → World → Prop} {v' : Value}
    (hg : o.guard = none) (s x : Operand) (t t' : TypeId) (hop : o.op = Op.call { callee := Callee.builtin Builtin.copy, args := #[s, x], argTypes := #[t, t'] })
    (sv xv : Value) (hs : a.eval s = sv) (hx : a.eval x = xv) (hrun : (Builtin.copy_ #[t, t'] o.type #[sv, xv]).run P w = .ok v' w') (hK : wpList P ops Q rest (a.put o.dst v') w') : wpList P ops Q (o :: rest) a w := by
  refine wpList_plain hg fun K hK' => ?_
  unfold Oper.wp
  simp [execOp, hop, resolve, invoke, builtin, hs, hx, hrun, Result.andThen]
  exact hK' _ _ hK
end Go
namespace Go.Proofs.YtfcdldcekdbckacDoor
open Go Go.RowKit Gf

theorem cell_same {W W' : World} {b : Nat} (h : W'.heap[b]? = W.heap[b]?) (o : Nat) : W'.cell? ⟨b, o, none⟩ = W.cell? ⟨b, o, none⟩ := by simp [World.cell?, h]
theorem Keeps.cell {g : Nat} {a w : World} (h : Keeps g a w) {b : Nat} (hb : b < a.heap.size) (hne : b ≠ g) (o : Nat) : w.cell? ⟨b, o, none⟩ = a.cell? ⟨b, o, none⟩ := cell_same (h.other b hb hne) o

/-! ### Blocks as lists of bytes -/
def bytesOf (x : BitVec 128) : List (BitVec 8) := (List.range 16).map (byte x)
theorem bytesOf_length (x : BitVec 128) : (bytesOf x).length = 16 := by simp [bytesOf]
theorem bytesOf_get (x : BitVec 128) (i : Nat) (hi : i < 16) : (bytesOf x)[i]? = some (byte x i) := by simp [bytesOf, hi]
theorem bytesOf_inj {x y : BitVec 128} (h : bytesOf x = bytesOf y) : x = y := bytes_ext fun i hi => by
  have := congrArg (fun l : List (BitVec 8) => l[i]?) h
  simpa [bytesOf_get _ i hi] using this
def bcells (bs : List (BitVec 8)) : List Value := bs.map fun x => .int .u8 (n8 x)
theorem bcells_get (bs : List (BitVec 8)) (i : Nat) : (bcells bs)[i]? = (bs[i]?).map fun x => .int .u8 (n8 x) := by simp [bcells]
theorem bcells_length (bs : List (BitVec 8)) : (bcells bs).length = bs.length := by simp [bcells]
theorem bcells_one (bs : List (BitVec 8)) : ∀ v ∈ bcells bs, v.oneCell' = true := fun v hv => by
  simp only [bcells, List.mem_map] at hv
  obtain ⟨_, _, rfl⟩ := hv; rfl
theorem blk_bcells (x : BitVec 128) : blk x = (bcells (bytesOf x)).toArray := by simp [blk, blkL, bcells, bytesOf]

theorem tA (l : List Value) (i : Nat) : l.toArray[i]? = l[i]? := by simp
/-! ### A row of values written into an array -/
def putV (cs : Array Value) (o : Nat) : List Value → Array Value
  | [] => cs
  | v :: vs => putV (cs.setIfInBounds o v) (o + 1) vs
theorem putV_size : ∀ (vs : List Value) (cs : Array Value) (o : Nat), (putV cs o vs).size = cs.size
  | [], _, _ => rfl
  | v :: vs, cs, o => by unfold putV; rw [putV_size vs]; simp
theorem putV_out : ∀ (vs : List Value) (cs : Array Value) (o i : Nat), i < o ∨ o + vs.length ≤ i → (putV cs o vs)[i]? = cs[i]?
  | [], _, _, _, _ => rfl
  | v :: vs, cs, o, i, h => by
    simp only [List.length_cons] at h
    unfold putV; rw [putV_out vs _ (o + 1) i (by omega), Array.getElem?_setIfInBounds_ne (by omega)]
theorem putV_in : ∀ (vs : List Value) (cs : Array Value) (o j : Nat), j < vs.length → o + vs.length ≤ cs.size → (putV cs o vs)[o + j]? = vs[j]?
  | [], _, _, _, h, _ => by simp at h
  | v :: vs, cs, o, 0, _, hl => by
    unfold putV
    simp only [List.length_cons] at hl
    show (putV (cs.setIfInBounds o v) (o + 1) vs)[o]? = _
    rw [putV_out vs _ (o + 1) o (by omega), Array.getElem?_setIfInBounds_self_of_lt (by omega)]
    rfl
  | v :: vs, cs, o, j + 1, h, hl => by
    unfold putV
    simp only [List.length_cons] at hl h
    have := putV_in vs (cs.setIfInBounds o v) (o + 1) j (by omega) (by simp; omega)
    rwa [show o + 1 + j = o + (j + 1) by omega] at this
theorem putV_append : ∀ (vs us : List Value) (cs : Array Value) (o : Nat), putV (putV cs o vs) (o + vs.length) us = putV cs o (vs ++ us)
  | [], _, _, _ => rfl
  | v :: vs, us, cs, o => by
    show putV (putV (cs.setIfInBounds o v) (o + 1) vs) (o + (vs.length + 1)) us = putV (cs.setIfInBounds o v) (o + 1) (vs ++ us)
    rw [← putV_append vs us, show o + (vs.length + 1) = o + 1 + vs.length by omega]
theorem putV_eq (vs : List Value) (cs : Array Value) (o : Nat) (h : o + vs.length ≤ cs.size) : (cs.toList.take o ++ vs ++ cs.toList.drop (o + vs.length)).toArray = putV cs o vs := by
  apply Array.ext_getElem?
  intro i
  rw [tA]
  by_cases h1 : i < o
  · rw [putV_out _ _ _ _ (.inl h1), List.append_assoc, List.getElem?_append_left (by simp; omega), List.getElem?_take, if_pos h1]; simp
  · by_cases h2 : i < o + vs.length
    · obtain ⟨j, rfl⟩ : ∃ j, i = o + j := ⟨i - o, by omega⟩
      rw [putV_in _ _ _ _ (by omega) h, List.getElem?_append_left (by simp; omega), List.getElem?_append_right (by simp; omega)]
      congr 1
      simp; omega
    · rw [putV_out _ _ _ _ (.inr (by omega)), List.getElem?_append_right (by simp; omega), List.getElem?_drop]
      simp only [List.length_append, List.length_take, Array.length_toList]
      rw [show o + vs.length + (i - (min o cs.size + vs.length)) = i by omega]; simp
/-- A row of bytes written into an array. -/
def putL (cs : Array Value) (o : Nat) (bs : List (BitVec 8)) : Array Value := putV cs o (bcells bs)
theorem putL_nil (cs : Array Value) (o : Nat) : putL cs o [] = cs := rfl
@[go_sem] theorem putL_size (cs : Array Value) (o : Nat) (bs : List (BitVec 8)) : (putL cs o bs).size = cs.size := putV_size _ _ _
theorem putL_out (cs : Array Value) (o : Nat) (bs : List (BitVec 8)) (i : Nat) (h : i < o ∨ o + bs.length ≤ i) : (putL cs o bs)[i]? = cs[i]? := putV_out _ _ _ _ (by rwa [bcells_length])
theorem putL_in (cs : Array Value) (o : Nat) (bs : List (BitVec 8)) (j : Nat) (x : BitVec 8) (h : bs[j]? = some x) (hl : o + bs.length ≤ cs.size) : (putL cs o bs)[o + j]? = some (.int .u8 (n8 x)) := by
  unfold putL
  rw [putV_in _ _ _ _ (by rw [bcells_length]; exact (List.getElem?_eq_some_iff.1 h).1) (by rwa [bcells_length]), bcells_get, h]; rfl
theorem putL_append (cs : Array Value) (o : Nat) (bs ds : List (BitVec 8)) : putL (putL cs o bs) (o + bs.length) ds = putL cs o (bs ++ ds) := by
  unfold putL
  have := putV_append (bcells bs) (bcells ds) cs o
  rw [bcells_length] at this
  rw [this]; simp [bcells]
theorem putL_one (cs : Array Value) (o : Nat) (x : BitVec 8) : cs.setIfInBounds o (.int .u8 (n8 x)) = putL cs o [x] := rfl
/-- Two rows at one place. -/
theorem putL_over (cs : Array Value) (o : Nat) (bs ds : List (BitVec 8)) (h : bs.length = ds.length) (hl : o + bs.length ≤ cs.size) : putL (putL cs o bs) o ds = putL cs o ds := by
  apply Array.ext_getElem?
  intro i
  by_cases h1 : i < o ∨ o + ds.length ≤ i
  · rw [putL_out _ _ _ _ h1, putL_out _ _ _ _ (by omega), putL_out _ _ _ _ h1]
  · obtain ⟨j, rfl⟩ : ∃ j, i = o + j := ⟨i - o, by omega⟩
    have hj : j < ds.length := by omega
    have e : ds[j]? = some ds[j] := List.getElem?_eq_getElem hj
    rw [putL_in _ _ _ _ _ e (by rw [putL_size]; omega), putL_in _ _ _ _ _ e (by omega)]
/-- Bytes stand in an array at o. -/
def BytesIn (cs : Array Value) (o : Nat) (bs : List (BitVec 8)) : Prop := ∀ (i : Nat) (x : BitVec 8), bs[i]? = some x → cs[o + i]? = some (.int .u8 (n8 x))
theorem BytesIn.put {cs : Array Value} {o : Nat} {bs : List (BitVec 8)} (hl : o + bs.length ≤ cs.size) : BytesIn (putL cs o bs) o bs := fun i x hx => putL_in cs o bs i x hx hl
theorem BytesIn.apart {cs : Array Value} {o p : Nat} {bs ds : List (BitVec 8)} (h : BytesIn cs o bs) (ha : o + bs.length ≤ p ∨ p + ds.length ≤ o) : BytesIn (putL cs p ds) o bs := fun i x hx => by
  have hi : i < bs.length := (List.getElem?_eq_some_iff.1 hx).1
  rw [putL_out _ _ _ _ (by omega)]
  exact h i x hx
theorem BytesIn.le {cs : Array Value} {o : Nat} {bs : List (BitVec 8)} (h : BytesIn cs o bs) (hne : bs ≠ []) : o + bs.length ≤ cs.size := by
  have hp := List.length_pos_iff.2 hne
  have hx : bs[bs.length - 1]? = some bs[bs.length - 1] := List.getElem?_eq_getElem (by omega)
  have := (Array.getElem?_eq_some_iff.1 (h _ _ hx)).1
  omega
/-- A place of n bytes. -/
def ByteRoom (cs : Array Value) (o n : Nat) : Prop := ∃ bs, bs.length = n ∧ BytesIn cs o bs
theorem ByteRoom.get {cs : Array Value} {o n : Nat} (h : ByteRoom cs o n) (i : Nat) (hi : i < n) : ∃ x : BitVec 8, cs[o + i]? = some (.int .u8 (n8 x)) := by
  obtain ⟨bs, rfl, hb⟩ := h
  exact ⟨bs[i], hb i _ (List.getElem?_eq_getElem hi)⟩
theorem ByteRoom.put {cs : Array Value} {o n p : Nat} {ds : List (BitVec 8)} (h : ByteRoom cs o n) : ByteRoom (putL cs p ds) o n := by
  obtain ⟨bs, rfl, hb⟩ := h
  refine ⟨(List.range bs.length).map fun i => if p ≤ o + i ∧ o + i < p + ds.length then ds.getD (o + i - p) 0#8 else bs.getD i 0#8, by simp, fun i x hx => ?_⟩
  have hi : i < bs.length := by have := (List.getElem?_eq_some_iff.1 hx).1; simpa using this
  have hc := hb i _ (List.getElem?_eq_getElem hi)
  have hx' : x = if p ≤ o + i ∧ o + i < p + ds.length then ds.getD (o + i - p) 0#8 else bs.getD i 0#8 := by
    have : (some (if p ≤ o + i ∧ o + i < p + ds.length then ds.getD (o + i - p) 0#8 else bs.getD i 0#8)) = some x := by simpa [hi] using hx
    exact (Option.some.inj this).symm
  by_cases hin : p ≤ o + i ∧ o + i < p + ds.length
  · rw [if_pos hin] at hx'
    have hsz := (Array.getElem?_eq_some_iff.1 hc).1
    by_cases hfit : p + ds.length ≤ cs.size
    · have hd : ds[o + i - p]? = some (ds[o + i - p]'(by omega)) := List.getElem?_eq_getElem (by omega)
      have := putL_in cs p ds (o + i - p) _ hd hfit
      rw [show p + (o + i - p) = o + i by omega] at this
      rw [this, hx', List.getD_eq_getElem?_getD, hd]; rfl
    · -- the array ends ahead of the row's end: the part that fits is what counts
      have key : ∀ (vs : List Value) (c : Array Value) (q j : Nat), j < vs.length → q + j < c.size → (putV c q vs)[q + j]? = vs[j]? := by
        intro vs
        induction vs with
        | nil => intro c q j hj; simp at hj
        | cons v vs ih =>
          intro c q j hj hq
          unfold putV
          cases j with
          | zero =>
            show (putV (c.setIfInBounds q v) (q + 1) vs)[q]? = some v
            rw [putV_out vs _ (q + 1) q (by omega), Array.getElem?_setIfInBounds_self_of_lt (by omega)]
          | succ j =>
            have := ih (c.setIfInBounds q v) (q + 1) j (by simpa using hj) (by simp; omega)
            rw [show q + (j + 1) = q + 1 + j by omega, this]; rfl
      have := key (bcells ds) cs p (o + i - p) (by rw [bcells_length]; omega) (by omega)
      rw [show p + (o + i - p) = o + i by omega] at this
      unfold putL
      have hd : ds[o + i - p]? = some (ds[o + i - p]'(by omega)) := List.getElem?_eq_getElem (by omega)
      rw [this, bcells_get, hx', List.getD_eq_getElem?_getD, hd]; rfl
  · rw [if_neg hin] at hx'
    rw [putL_out _ _ _ _ (by omega), hc, hx', List.getD_eq_getElem?_getD, List.getElem?_eq_getElem hi]; rfl
theorem ByteRoom.sub {cs : Array Value} {o n p m : Nat} (h : ByteRoom cs o n) (hp : o ≤ p) (hm : p + m ≤ o + n) : ByteRoom cs p m := by
  obtain ⟨bs, rfl, hb⟩ := h
  refine ⟨(bs.drop (p - o)).take m, by simp; omega, fun i x hx => ?_⟩
  have hi : i < m := by have := (List.getElem?_eq_some_iff.1 hx).1; simp at this; omega
  rw [List.getElem?_take, if_pos hi, List.getElem?_drop] at hx
  have := hb _ _ hx
  rwa [show o + (p - o + i) = p + i by omega] at this
theorem ByteRoom.le {cs : Array Value} {o n : Nat} (h : ByteRoom cs o n) (hn : 0 < n) : o + n ≤ cs.size := by
  obtain ⟨bs, rfl, hb⟩ := h
  exact hb.le (List.length_pos_iff.1 hn)
theorem BytesIn.room {cs : Array Value} {o : Nat} {bs : List (BitVec 8)} (h : BytesIn cs o bs) : ByteRoom cs o bs.length := ⟨bs, rfl, h⟩
theorem bytesIn_all (bs : List (BitVec 8)) : BytesIn (bcells bs).toArray 0 bs := fun i x hx => by
  rw [Nat.zero_add, tA, bcells_get, hx]; rfl
theorem BytesIn.eq {cs : Array Value} {bs : List (BitVec 8)} (h : BytesIn cs 0 bs) (hs : cs.size = bs.length) : cs = (bcells bs).toArray := by
  apply Array.ext_getElem?
  intro i
  rw [tA (bcells bs) i, bcells_get]
  by_cases hi : i < bs.length
  · rw [List.getElem?_eq_getElem hi]
    have := h i _ (List.getElem?_eq_getElem hi)
    rw [Nat.zero_add] at this
    exact this
  · rw [List.getElem?_eq_none (by omega), Array.getElem?_eq_none (by omega)]; rfl
theorem putL_all (bs ds : List (BitVec 8)) (h : ds.length = bs.length) : putL (bcells bs).toArray 0 ds = (bcells ds).toArray :=
  (BytesIn.put (by simp [bcells]; omega)).eq (by rw [putL_size]; simp [bcells, h])

theorem objAt_setCells (N : Nat) (t : TypeId) : ∀ (vs : List Value) (o : Nat) (W : World) (cs : Array Value), objAt W N = some (.cells cs t (0, 0)) → objAt (W.setCells N o vs) N = some (.cells (putV cs o vs) t (0, 0))
  | [], _, _, _, h => h
  | v :: vs, o, _, _, h => objAt_setCells N t vs (o + 1) _ _ (objAt_set h o v)
theorem below_setCells {n0 N : Nat} (hN : n0 ≤ N) : ∀ (vs : List Value) (o : Nat) (W : World), Below n0 W (W.setCells N o vs)
  | [], _, _ => Below.refl _ _
  | v :: vs, o, _ => ((Below.refl n0 _).setCell (p := ⟨N, o, none⟩) hN v).trans (below_setCells hN vs (o + 1) _)
theorem objAt_setCells_ne (N b : Nat) (h : b ≠ N) : ∀ (vs : List Value) (o : Nat) (W : World), objAt (W.setCells N o vs) b = objAt W b
  | [], _, _ => rfl
  | v :: vs, o, _ => (objAt_setCells_ne N b h vs (o + 1) _).trans (objAt_setCell _ N o v b h)

/-! ### Types' rows -/
theorem info5 : ∃ i, Tryd.prog.info? 5 = some i ∧ i.size = 1 ∧ i.bytes = 1 ∧ i.zero = some (.int .u8 0) := by
  have h : (Tryd.prog.info? 5).map (fun i => (i.size, i.bytes, i.zero)) = some (1, 1, some (.int .u8 0)) := by kernel_rfl
  cases hq : Tryd.prog.info? 5 with
  | none => rw [hq] at h; cases h
  | some i =>
    rw [hq] at h
    have h' := Option.some.inj h
    simp only [Prod.mk.injEq] at h'
    exact ⟨i, rfl, h'.1, h'.2.1, h'.2.2⟩

/-! ### A slice of bytes that holds bs, in a block at or behind n0 (or empty) -/
def rowOf (n0 : Nat) (bs : List (BitVec 8)) : Value → World → Prop := fun v W =>
  ∃ (p : Option Addr) (c : Nat), v = .slice p bs.length c ∧ bs.length ≤ c ∧ (c : Int) ≤ 9223372036854775807 ∧
    (bs = [] ∨ ∃ b o, p = some ⟨b, o, none⟩ ∧ n0 ≤ b ∧ b < W.heap.size ∧ ∀ i x, bs[i]? = some x → W.cell? ⟨b, o + i, none⟩ = some (.int .u8 (n8 x)))
theorem stab_rowOf (n0 : Nat) (bs : List (BitVec 8)) : Stab (rowOf n0 bs) := by
  rintro v w w' hb ⟨p, c, h1, h2, h3, h4⟩
  refine ⟨p, c, h1, h2, h3, h4.imp id ?_⟩
  rintro ⟨b, o, h5, h6, h7, h8⟩
  exact ⟨b, o, h5, h6, Nat.lt_of_lt_of_le h7 hb.size, fun i x hx => (cell_same (hb.block b h7) _).trans (h8 i x hx)⟩
theorem rowOf.mono {n0 n1 : Nat} {bs : List (BitVec 8)} {v : Value} {w : World} (h : rowOf n0 bs v w) (hn : n1 ≤ n0) : rowOf n1 bs v w := by
  obtain ⟨p, c, h1, h2, h3, h4⟩ := h
  refine ⟨p, c, h1, h2, h3, h4.imp id ?_⟩
  rintro ⟨b, o, h5, h6, h7, h8⟩
  exact ⟨b, o, h5, by omega, h7, h8⟩
theorem rowOf.slice {n0 : Nat} {bs : List (BitVec 8)} {v : Value} {w : World} (h : rowOf n0 bs v w) : ∃ p c, v = .slice p bs.length c := by
  obtain ⟨p, c, h, _⟩ := h
  exact ⟨p, c, h⟩
/-- It stands where another block is turned. -/
theorem rowOf.keeps {n0 g : Nat} {bs : List (BitVec 8)} {v : Value} {w w' : World} (h : rowOf n0 bs v w) (hk : Keeps g w w') (hg : g < n0) : rowOf n0 bs v w' := by
  obtain ⟨p, c, h1, h2, h3, h4⟩ := h
  refine ⟨p, c, h1, h2, h3, h4.imp id ?_⟩
  rintro ⟨b, o, h5, h6, h7, h8⟩
  exact ⟨b, o, h5, h6, Nat.lt_of_lt_of_le h7 hk.size, fun i x hx => (hk.cell h7 (by omega) _).trans (h8 i x hx)⟩
/-- Out of a block whose cells are known. -/
theorem rowOf_obj {n0 b o c : Nat} {cs : Array Value} {t : TypeId} {fr : Nat × Nat} {bs : List (BitVec 8)} {w : World} (h : objAt w b = some (.cells cs t fr)) (hb : BytesIn cs o bs) (hn : n0 ≤ b) (hc : bs.length ≤ c) (hc2 : (c : Int) ≤ 9223372036854775807) :
    rowOf n0 bs (.slice (some ⟨b, o, none⟩) bs.length c) w :=
  ⟨_, c, rfl, hc, hc2, .inr ⟨b, o, rfl, hn, oa_lt h, fun i x hx => (objAt_cell h _).trans (hb i x hx)⟩⟩
theorem rowOf_blk {n0 b : Nat} {x : BitVec 128} {t : TypeId} {fr : Nat × Nat} {w : World} (h : objAt w b = some (.cells (blk x) t fr)) (hn : n0 ≤ b) : rowOf n0 (bytesOf x) (.slice (some ⟨b, 0, none⟩) 16 16) w := by
  have hb : BytesIn (blk x) 0 (bytesOf x) := by rw [blk_bcells]; exact bytesIn_all _
  have := rowOf_obj (c := 16) h hb hn (by rw [bytesOf_length]; decide) (by decide)
  rwa [bytesOf_length] at this
theorem rowOf_nil (n0 : Nat) (w : World) : rowOf n0 [] (.slice none 0 0) w := ⟨none, 0, rfl, by simp, by decide, .inl rfl⟩

/-! ### make, append to nothing, copy -/
theorem made_bcells (n : Nat) : madeCells (Value.int .u8 0).cells n = (bcells (List.replicate n 0#8)).toArray := by
  have hc : (Value.int .u8 0).cells = #[.int .u8 0] := rfl
  apply Array.ext_getElem?
  intro i
  unfold madeCells
  rw [hc, tA (bcells (List.replicate n 0#8)) i, bcells_get]
  by_cases hi : i < n
  · simp [hi, Nat.mod_one, n8]
  · simp [hi]
theorem run_makeB (w : World) (n m : Nat) (hn : m ≤ 281474976710656) (hnm : n ≤ m) :
    (Instr.makeSlice 22 (.int .i64 (n : Int)) (.int .i64 (m : Int))).run Tryd.prog w = .ok (.slice (some ⟨w.heap.size, 0, none⟩) n m) (w.alloc (.cells (bcells (List.replicate m 0#8)).toArray 5)) := by
  obtain ⟨i, hi, hs, hb, hz⟩ := info5
  have h := run_make (P := Tryd.prog) w 22 5 i (.int .u8 0) Tryd.underlying22 hi hz .i64 .i64 n m (by omega) (by omega) (by rw [hb]; omega) (by omega)
  rw [hs] at h
  rw [← made_bcells]
  simpa using h

theorem run_copied (w : World) (bs : List (BitVec 8)) (v : Value) (ty : TypeId) (h : rowOf 0 bs v w) (hlen : bs.length ≤ 281474976710656) :
    ∃ v' w', (Builtin.append_ #[22, 22] ty #[.slice none 0 0, v]).run Tryd.prog w = .ok v' w' ∧ rowOf w.heap.size bs v' w' ∧ Below w.heap.size w w' := by
  obtain ⟨p, c, rfl, h2, h3, h4⟩ := h
  obtain ⟨i, hi, hs, hb, hz⟩ := info5
  by_cases hbs : bs = []
  · subst hbs
    refine ⟨.slice none 0 0, w, ?_, ⟨none, 0, rfl, by simp, by decide, .inl rfl⟩, Below.refl _ _⟩
    cases p <;> simp [Builtin.append_, run_underlying Tryd.underlying22, sizeOf, typeInfo, hi, Builtin.lenOf, Builtin.firstCells, loadCells, loadCellsFrom]
  · obtain ⟨b, o, rfl, _, h7, h8⟩ := h4.resolve_left hbs
    have hpos : 0 < bs.length := List.length_pos_iff.2 hbs
    have hrun := run_append_nil (P := Tryd.prog) (w := w) 22 ty 5 i (.int .u8 0) Tryd.underlying22 hi hz ⟨b, o, none⟩ bs.length c (bcells bs) (by rw [hs]; simp [bcells]) (fun j u hu => by
      rw [bcells_get] at hu
      obtain ⟨x, hx, rfl⟩ := Option.map_eq_some_iff.1 hu
      rw [Addr.add_mid]
      exact h8 j x hx) hpos (by omega) (by rw [hb]; omega)
    refine ⟨_, _, hrun, ⟨_, _, rfl, grownCap_ge _ _ _ _, ?_, .inr ⟨w.heap.size, 0, rfl, Nat.le_refl _, by simp, fun j x hx => ?_⟩⟩, ((Below.refl _ _).drew).alloc (by simp) _⟩
    · have := grownCap_le_maxLen w bs.length 0 5 (by simp only [maxLen]; omega)
      simp only [maxLen] at this
      omega
    · have hj : j < bs.length := (List.getElem?_eq_some_iff.1 hx).1
      have hnew : objAt (w.drew.alloc (.cells ((bcells bs).toArray ++ Builtin.zeroCells (Value.int .u8 0).cells (grownCap w bs.length 0 5 - bs.length)) 5)) w.heap.size = some (.cells ((bcells bs).toArray ++ Builtin.zeroCells (Value.int .u8 0).cells (grownCap w bs.length 0 5 - bs.length)) 5 (0, 0)) := objAt_alloc_at _ _ _ rfl
      rw [Nat.zero_add, objAt_cell hnew j, Array.getElem?_append_left (by simp [bcells]; exact hj)]
      have := bcells_get bs j
      rw [hx] at this
      simpa using this

/-- A copy of bytes into a block: as many as fit. -/
theorem run_copyB (W : World) (g o dl dc : Nat) (cur : Array Value) (t : TypeId) (bs : List (BitVec 8)) (v : Value) (ty : TypeId) (hg : objAt W g = some (.cells cur t (0, 0))) (h : rowOf 0 bs v W) (hfit : o + dl ≤ cur.size) :
    (Builtin.copy_ #[22, 22] ty #[.slice (some ⟨g, o, none⟩) dl dc, v]).run Tryd.prog W = .ok (goInt ((min bs.length dl : Nat) : Int)) (W.setRow g (putL cur o (bs.take dl))) := by
  obtain ⟨p, c, rfl, h2, h3, h4⟩ := h
  by_cases hne : bs = []
  · subst hne
    have e1 : W.setRow g (putL cur o (([] : List (BitVec 8)).take dl)) = W := by rw [List.take_nil, putL_nil]; exact setRow_self W g cur t (0, 0) hg
    rw [e1]
    obtain ⟨i, hi, hs, hb, hz⟩ := info5
    cases p <;> simp [Builtin.copy_, run_underlying Tryd.underlying22, Builtin.lenOf, Builtin.firstCells, sizeOf, typeInfo, hi, storeCells, loadCells, loadCellsFrom]
  · obtain ⟨b, so, rfl, _, hb, hcell⟩ := h4.resolve_left hne
    have hcs : (bcells (bs.take dl)).length = min bs.length dl := by rw [bcells_length, List.length_take, Nat.min_comm]
    have h := run_copy_row (P := Tryd.prog) W 22 22 ty 5 g o dl dc ⟨b, so, none⟩ bs.length c cur t (bcells (bs.take dl)) Tryd.underlying22 (by kernel_rfl) hg hcs
      (fun i u hu => by
        rw [bcells_get] at hu
        obtain ⟨y, hy, rfl⟩ := Option.map_eq_some_iff.1 hu
        rw [Addr.add_mid]
        have hi : i < dl := by have := (List.getElem?_eq_some_iff.1 hy).1; simp at this; omega
        rw [List.getElem?_take, if_pos hi] at hy
        exact hcell i y hy)
      (by rw [hcs]; omega) (bcells_one _)
    rw [h, hcs, ← hcs, putV_eq _ _ _ (by rw [hcs]; omega)]
    rfl

set_option maxHeartbeats 1000000 in
theorem copied_any (w : World) (bs : List (BitVec 8)) (v : Value) (h : rowOf 0 bs v w) (hlen : bs.length ≤ 281474976710656) :
    Calls Tryd.prog 12 #[v] w fun e w' => ∃ v', e = .returned v' ∧ Below w.heap.size w w' ∧ rowOf w.heap.size bs v' w' := by
  obtain ⟨v', w', hrun, hr, hb⟩ := run_copied w bs v 22 h hlen
  have hb' := Lib.hid hb
  clear hb h
  go_enter Tryd.func12, Tryd.ntmps12
  go_wp2_with (at_builtin; refine wpList_append_run rfl _ _ _ _ rfl _ _ rfl rfl hrun ?_; clear hrun)
  go_ret
  exact ⟨v', rfl, hb'.out, hr⟩
end Go.Proofs.YtfcdldcekdbckacDoor
