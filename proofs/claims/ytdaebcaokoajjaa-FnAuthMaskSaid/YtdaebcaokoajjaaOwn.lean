/- A row of bytes that the call itself has made, appended to again. -/
import Derived.Test.YtdaebcaokoajjaaNoth
import Derived.Test.YtdaebcaokoajjaaOwnK
namespace Go.Proofs.Ytdaebcaokoajjaa
open Go Go.RowKit Gf

/-- A slice that begins its own block of bytes. -/
def ownB (n0 : Nat) (bs : List (BitVec 8)) : Value → World → Prop := fun v W =>
  ∃ (N : Nat) (cs : Array Value), v = .slice (some ⟨N, 0, none⟩) bs.length cs.size ∧ n0 ≤ N ∧ objAt W N = some (.cells cs 5 (0, 0)) ∧ bs.length ≤ cs.size ∧ cs.size ≤ maxLen ∧
    ∀ (i : Nat) (x : BitVec 8), bs[i]? = some x → cs[i]? = some (.int .u8 (n8 x))
theorem ownB.rowOf {n0 : Nat} {bs : List (BitVec 8)} {v : Value} {W : World} (h : ownB n0 bs v W) : rowOf n0 bs v W := by
  obtain ⟨N, cs, h1, h2, h3, h4, h5, h6⟩ := h
  exact ⟨_, cs.size, h1, h4, by simp only [maxLen] at h5; omega, .inr ⟨N, 0, rfl, h2, oa_lt h3, fun i x hx => by rw [Nat.zero_add]; exact (objAt_cell h3 i).trans (h6 i x hx)⟩⟩
theorem stab_ownB (n0 : Nat) (bs : List (BitVec 8)) : Stab (ownB n0 bs) := by
  rintro v w w' hb ⟨N, cs, h1, h2, h3, h4⟩
  exact ⟨N, cs, h1, h2, oa_below h3 hb (oa_lt h3), h4⟩

def spl (cs : Array Value) (o : Nat) : List Value → Array Value
  | [] => cs
  | v :: vs => spl (cs.setIfInBounds o v) (o + 1) vs
theorem spl_size : ∀ (vs : List Value) (cs : Array Value) (o : Nat), (spl cs o vs).size = cs.size
  | [], _, _ => rfl
  | v :: vs, cs, o => by unfold spl; rw [spl_size vs]; simp
theorem spl_out : ∀ (vs : List Value) (cs : Array Value) (o i : Nat), i < o → (spl cs o vs)[i]? = cs[i]?
  | [], _, _, _, _ => rfl
  | v :: vs, cs, o, i, h => by unfold spl; rw [spl_out vs _ (o + 1) i (by omega), Array.getElem?_setIfInBounds_ne (by omega)]
theorem spl_in : ∀ (vs : List Value) (cs : Array Value) (o j : Nat) (u : Value), vs[j]? = some u → o + vs.length ≤ cs.size → (spl cs o vs)[o + j]? = some u
  | [], _, _, _, _, h, _ => by simp at h
  | v :: vs, cs, o, 0, u, h, hl => by
    obtain rfl : v = u := by simpa using h
    unfold spl
    simp only [List.length_cons] at hl
    show (spl (cs.setIfInBounds o v) (o + 1) vs)[o]? = _
    rw [spl_out vs _ (o + 1) o (by omega), Array.getElem?_setIfInBounds_self_of_lt (by omega)]
  | v :: vs, cs, o, j + 1, u, h, hl => by
    unfold spl
    simp only [List.length_cons] at hl
    have := spl_in vs (cs.setIfInBounds o v) (o + 1) j u (by simpa using h) (by simp; omega)
    rwa [show o + 1 + j = o + (j + 1) by omega] at this
theorem objAt_setCells (N : Nat) : ∀ (vs : List Value) (o : Nat) (W : World) (cs : Array Value), objAt W N = some (.cells cs 5 (0, 0)) → objAt (W.setCells N o vs) N = some (.cells (spl cs o vs) 5 (0, 0))
  | [], _, _, _, h => h
  | v :: vs, o, _, _, h => objAt_setCells N vs (o + 1) _ _ (objAt_set h o v)
theorem below_setCells {n0 N : Nat} (hN : n0 ≤ N) : ∀ (vs : List Value) (o : Nat) (W : World), Below n0 W (W.setCells N o vs)
  | [], _, _ => Below.refl _ _
  | v :: vs, o, _ => ((Below.refl n0 _).setCell (p := ⟨N, o, none⟩) hN v).trans (below_setCells hN vs (o + 1) _)

theorem objAt_setCells_ne (N b : Nat) (h : b ≠ N) : ∀ (vs : List Value) (o : Nat) (W : World), objAt (W.setCells N o vs) b = objAt W b
  | [], _, _ => rfl
  | v :: vs, o, _ => (objAt_setCells_ne N b h vs (o + 1) _).trans (objAt_setCell _ N o v b h)
/-- An own row stays as it is where cells behind it are written. -/
theorem ownB.setCells {n0 N o : Nat} {zs : List (BitVec 8)} {u : Value} {W : World} {cs : Array Value} (h : ownB n0 zs u W) (hN : objAt W N = some (.cells cs 5 (0, 0))) (ho : zs.length ≤ o) (vs : List Value) : ownB n0 zs u (W.setCells N o vs) := by
  obtain ⟨M, ds, h1, h2, h3, h4, h5, h6⟩ := h
  by_cases e : M = N
  · subst e
    refine ⟨M, spl ds o vs, by rw [spl_size]; exact h1, h2, objAt_setCells M vs o W ds h3, by rw [spl_size]; exact h4, by rw [spl_size]; exact h5, fun i x hx => ?_⟩
    have hi : i < zs.length := (List.getElem?_eq_some_iff.1 hx).1
    rw [spl_out _ _ _ _ (by omega)]
    exact h6 i x hx
  · exact ⟨M, ds, h1, h2, (objAt_setCells_ne N M e vs o W).trans h3, h4, h5, h6⟩

theorem own_room {n0 N : Nat} {bs ys : List (BitVec 8)} {cs : Array Value} {W : World} (h2 : n0 ≤ N) (h3 : objAt W N = some (.cells cs 5 (0, 0))) (h5 : cs.size ≤ maxLen)
    (h6 : ∀ (i : Nat) (x : BitVec 8), bs[i]? = some x → cs[i]? = some (.int .u8 (n8 x))) (hroom : bs.length + ys.length ≤ cs.size) :
    ownB n0 (bs ++ ys) (.slice (some ⟨N, 0, none⟩) (bs.length + ys.length) cs.size) (W.setCells N bs.length (bcells ys)) := by
  have hyl : (bcells ys).length = ys.length := by simp [bcells]
  refine ⟨N, spl cs bs.length (bcells ys), by rw [spl_size, List.length_append], h2, objAt_setCells N _ _ _ _ h3, by rw [spl_size, List.length_append]; exact hroom, by rw [spl_size]; exact h5, fun i x hx => ?_⟩
  by_cases hi : i < bs.length
  · rw [spl_out _ _ _ _ hi]
    rw [List.getElem?_append_left hi] at hx
    exact h6 i x hx
  · rw [List.getElem?_append_right (by omega)] at hx
    have := spl_in (bcells ys) cs bs.length (i - bs.length) (.int .u8 (n8 x)) (by rw [bcells_get, hx]; rfl) (by omega)
    rwa [show bs.length + (i - bs.length) = i by omega] at this
theorem own_grown {n0 : Nat} {zs : List (BitVec 8)} {W : World} {cap : Nat} {cs : Array Value} (hn0 : n0 ≤ W.heap.size) (hcs : cs = (bcells zs).toArray ++ Builtin.zeroCells (Value.int .u8 0).cells (cap - zs.length)) (hge : zs.length ≤ cap) (hle : cap ≤ maxLen) :
    ownB n0 zs (.slice (some ⟨W.heap.size, 0, none⟩) zs.length cap) (W.drew.alloc (.cells cs 5)) := by
  have hsz : cs.size = cap := by
    have h1 : (Value.int .u8 0).cells.size = 1 := rfl
    rw [hcs]
    simp only [Array.size_append, List.size_toArray, size_zeroCells, h1, bcells, List.length_map]
    omega
  refine ⟨W.heap.size, cs, by rw [hsz], hn0, objAt_alloc_at _ _ _ rfl, by omega, by omega, fun i x hx => ?_⟩
  have hi : i < zs.length := (List.getElem?_eq_some_iff.1 hx).1
  rw [hcs, Array.getElem?_append_left (by simp [bcells]; exact hi)]
  have := bcells_get zs i
  rw [hx] at this
  simpa using this

theorem run_app (n0 : Nat) (bs ys : List (BitVec 8)) (v x : Value) (tx ty : TypeId) (W : World) (ho : ownB n0 bs v W) (hsrc : Src Try.prog 1 tx x ys.length (bcells ys) W) (hn0 : n0 ≤ W.heap.size) (hlen : bs.length + ys.length ≤ 1099511627776) :
    ∃ v' W', (Builtin.append_ #[35, tx] ty #[v, x]).run Try.prog W = .ok v' W' ∧ ownB n0 (bs ++ ys) v' W' ∧ Below n0 W W' ∧ (∀ zs u, zs.length ≤ bs.length → ownB n0 zs u W → ownB n0 zs u W') ∧
      ∀ M, M < W.heap.size → (∀ N c, v = .slice (some ⟨N, 0, none⟩) bs.length c → M ≠ N) → objAt W' M = objAt W M := by
  obtain ⟨i, hi, hs, hb, hz⟩ := info5
  obtain ⟨N, cs, rfl, h2, h3, h4, h5, h6⟩ := ho
  rw [← hs] at hsrc
  by_cases hroom : bs.length + ys.length ≤ cs.size
  · have hrun := run_append_room_src (P := Try.prog) W 35 tx ty 5 i Try.underlying35 hi N 0 bs.length cs.size x ys.length (bcells ys) hsrc hroom
      (fun j hj => by
        rw [hs, objAt_cell h3, Nat.zero_add, Nat.mul_one]
        have : bs.length + j < cs.size := by simp [bcells] at hj; omega
        simp [this]) (fun j hj => objAt_free h3 _)
    rw [hs, Nat.zero_add, Nat.mul_one] at hrun
    exact ⟨_, _, hrun, own_room h2 h3 h5 h6 hroom, below_setCells h2 _ _ _, fun zs u hz hu => hu.setCells h3 hz _, fun M _ hM => objAt_setCells_ne N M (hM N _ rfl) _ _ _⟩
  · have hcap : cs.size < bs.length + ys.length := by omega
    have hfit : Builtin.nextslicecap (bs.length + ys.length) cs.size * i.bytes ≤ 281474976710656 := by
      have := nextslicecap_le hcap
      rw [hb]
      omega
    have hold : (Builtin.firstCells i.size bs.length (.slice (some ⟨N, 0, none⟩) bs.length cs.size)).run Try.prog W.drew = .ok (bcells bs).toArray W.drew :=
      run_firstCells_some (P := Try.prog) W.drew i.size bs.length ⟨N, 0, none⟩ bs.length cs.size (bcells bs) (by rw [hs]; simp [bcells]) (fun j u hj => by
        rw [bcells_get] at hj
        obtain ⟨y, hy, rfl⟩ := Option.map_eq_some_iff.1 hj
        rw [Addr.add_lit, Nat.zero_add]
        exact (objAt_cell (oa_drew h3) j).trans (h6 j y hy))
    have hrun := run_append_grow_src (P := Try.prog) W 35 tx ty 5 i (.int .u8 0) Try.underlying35 hi hz (some ⟨N, 0, none⟩) bs.length cs.size (bcells bs) hold x ys.length (bcells ys) hsrc hcap (by omega) hfit
    have hl : (bs ++ ys).length = bs.length + ys.length := List.length_append
    have hg := own_grown (n0 := n0) (zs := bs ++ ys) (W := W) (cap := grownCap W (bs.length + ys.length) cs.size 5) hn0 rfl (by rw [hl]; exact grownCap_ge _ _ _ _) (grownCap_le_maxLen _ _ _ _ (by simp only [maxLen]; omega))
    rw [hl, show bcells (bs ++ ys) = bcells bs ++ bcells ys by simp [bcells]] at hg
    exact ⟨_, _, hrun, hg, ((Below.refl n0 W).drew).alloc hn0 _, fun zs u _ hu => stab_ownB _ _ _ _ _ (((Below.refl W.heap.size W).drew).alloc (Nat.le_refl _) _) hu, fun M hM _ => objAt_alloc_past _ _ _ hM⟩
/-- Zeros, as they are appended. -/
theorem zeros_cells (n : Nat) : (Builtin.zeroCells (Value.int .u8 0).cells n).toList = bcells (List.replicate n 0#8) := by
  have h1 : (Value.int .u8 0).cells = #[.int .u8 0] := rfl
  unfold Builtin.zeroCells bcells
  rw [h1]
  refine List.ext_getElem? fun i => ?_
  by_cases hi : i < n
  · simp [hi, Nat.mod_one, n8]
  · simp [hi]
theorem tgrow (P : Program) (hu35 : P.underlying 35 = some (.slice 5)) (hu3 : P.underlying 3 = some (.int .i64)) (i : TypeInfo) (hi : P.info? 5 = some i) (hs : i.size = 1) (hb : i.bytes = 1) (hz : i.zero = some (.int .u8 0))
   (N : Nat) (cs : Array Value) (bs : List (BitVec 8)) (n : Nat) (ty : TypeId) (W : World) (hlen : bs.length + n ≤ 1099511627776) (hroom : ¬ bs.length + n ≤ cs.size)
   (hzc : (Builtin.zeroCells (Value.int .u8 0).cells n).toList = bcells (List.replicate n 0#8))
   (hold : (Builtin.firstCells i.size bs.length (.slice (some ⟨N, 0, none⟩) bs.length cs.size)).run P W.drew = .ok (bcells bs).toArray W.drew)
   (h4 : bs.length ≤ cs.size) (hnl : Builtin.nextslicecap (bs.length + n) cs.size ≤ 281474976710656) :
   (Builtin.append_ #[35, 3] ty #[.slice (some ⟨N, 0, none⟩) bs.length cs.size, .int .i64 (n : Int)]).run P W =
     .ok (.slice (some ⟨W.heap.size, 0, none⟩) (bs.length + n) (grownCap W (bs.length + n) cs.size 5)) (W.drew.alloc (.cells ((bcells bs ++ bcells (List.replicate n 0#8)).toArray ++ Builtin.zeroCells (Value.int .u8 0).cells (grownCap W (bs.length + n) cs.size 5 - (bs.length + n))) 5)) := by
  have hw : IntKind.i64.wrap (n : Int) = (n : Int) := (by rw [IntKind.wrap_i64]; omega)
  have hneg : ¬ ((n : Int) < 0) := by omega
  have hbig : ¬ (281474976710656 < (n : Int)) := by omega
  have h63 : ¬ (9223372036854775807 < ((bs.length : Int) + (n : Int))) := by omega
  have hnl' : ¬ (281474976710656 < Builtin.nextslicecap (bs.length + n) cs.size) := by omega
  rw [hs] at hold
  have hn0 : ¬ n = 0 := by omega
  have hn0' : ¬ ((n : Int) ≤ 0) := by omega
  have hmax : max (n : Int) 0 = n := by omega
  simp [Builtin.append_, run_underlying hu35, run_underlying hu3, sizeOf, typeInfo, zeroValue, asInt, asIntOf, hi, hz, hs, hb, hw, hneg, hbig, hroom, h63, hnl', hn0, hold, Question.forced, newRow, grownCap]
  congr 2
  apply Array.ext'
  simp [hzc, List.append_assoc]

theorem troom (P : Program) (hu35 : P.underlying 35 = some (.slice 5)) (hu3 : P.underlying 3 = some (.int .i64)) (i : TypeInfo) (hi : P.info? 5 = some i) (hs : i.size = 1) (hb : i.bytes = 1) (hz : i.zero = some (.int .u8 0))
   (N : Nat) (cs : Array Value) (bs : List (BitVec 8)) (n : Nat) (ty : TypeId) (W : World) (hlen : bs.length + n ≤ 1099511627776) (hroom : bs.length + n ≤ cs.size)
   (hzc : (Builtin.zeroCells (Value.int .u8 0).cells n).toList = bcells (List.replicate n 0#8))
   (hst : (storeCells ⟨N, bs.length, none⟩ (bcells (List.replicate n 0#8)) 0).run P W = .ok () (W.setCells N bs.length (bcells (List.replicate n 0#8)))) :
   (Builtin.append_ #[35, 3] ty #[.slice (some ⟨N, 0, none⟩) bs.length cs.size, .int .i64 (n : Int)]).run P W = .ok (.slice (some ⟨N, 0, none⟩) (bs.length + n) cs.size) (W.setCells N bs.length (bcells (List.replicate n 0#8))) := by
  have hw : IntKind.i64.wrap (n : Int) = (n : Int) := (by rw [IntKind.wrap_i64]; omega)
  have hneg : ¬ ((n : Int) < 0) := by omega
  have hbig : ¬ (281474976710656 < (n : Int)) := by omega
  by_cases hn0 : n = 0
  · subst hn0
    have h2 : bs.length ≤ cs.size := hroom
    simp [bcells] at hst
    have hw0 : IntKind.i64.wrap 0 = 0 := by decide
    simp [Builtin.append_, run_underlying hu35, run_underlying hu3, sizeOf, typeInfo, zeroValue, asInt, asIntOf, hi, hz, hs, hb, h2, hw0, Addr.add_lit, bcells, hst]
  · simp [Builtin.append_, run_underlying hu35, run_underlying hu3, sizeOf, typeInfo, zeroValue, asInt, asIntOf, hi, hz, hs, hb, hw, hneg, hbig, hroom, hn0, Addr.add_lit, hzc, hst]
theorem run_app0 (n0 : Nat) (bs : List (BitVec 8)) (n : Nat) (v : Value) (ty : TypeId) (W : World) (ho : ownB n0 bs v W) (hn0 : n0 ≤ W.heap.size) (hlen : bs.length + n ≤ 1099511627776) :
    ∃ v' W', (Builtin.append_ #[35, 3] ty #[v, .int .i64 (n : Int)]).run Try.prog W = .ok v' W' ∧ ownB n0 (bs ++ List.replicate n 0#8) v' W' ∧ Below n0 W W' ∧ ∀ zs u, zs.length ≤ bs.length → ownB n0 zs u W → ownB n0 zs u W' := by
  obtain ⟨i, hi, hs, hb, hz⟩ := info5
  obtain ⟨N, cs, rfl, h2, h3, h4, h5, h6⟩ := ho
  have hyl : (List.replicate n 0#8).length = n := List.length_replicate
  by_cases hroom : bs.length + n ≤ cs.size
  · have hst := run_storeCells_cells (P := Try.prog) N bs.length (bcells (List.replicate n 0#8)) 0 W (fun j hj => by
        rw [Nat.add_zero, objAt_cell h3]
        have : bs.length + j < cs.size := by simp [bcells] at hj; omega
        simp [this]) (fun j hj => objAt_free h3 _) (fun u hu => by
        simp only [bcells, List.mem_map] at hu
        obtain ⟨_, _, rfl⟩ := hu; rfl)
    have hrun := troom Try.prog Try.underlying35 Try.underlying3 i hi hs hb hz N cs bs n ty W hlen hroom (zeros_cells n) hst
    have := own_room (ys := List.replicate n 0#8) h2 h3 h5 h6 (by rw [hyl]; exact hroom)
    rw [hyl] at this
    exact ⟨_, _, hrun, this, below_setCells h2 _ _ _, fun zs u hz hu => hu.setCells h3 hz _⟩
  · have hcap : cs.size < bs.length + n := by omega
    have hfit : Builtin.nextslicecap (bs.length + n) cs.size ≤ 281474976710656 := by
      have := nextslicecap_le hcap
      omega
    have hold : (Builtin.firstCells i.size bs.length (.slice (some ⟨N, 0, none⟩) bs.length cs.size)).run Try.prog W.drew = .ok (bcells bs).toArray W.drew :=
      run_firstCells_some (P := Try.prog) W.drew i.size bs.length ⟨N, 0, none⟩ bs.length cs.size (bcells bs) (by rw [hs]; simp [bcells]) (fun j u hj => by
        rw [bcells_get] at hj
        obtain ⟨y, hy, rfl⟩ := Option.map_eq_some_iff.1 hj
        rw [Addr.add_lit, Nat.zero_add]
        exact (objAt_cell (oa_drew h3) j).trans (h6 j y hy))
    have hrun := tgrow Try.prog Try.underlying35 Try.underlying3 i hi hs hb hz N cs bs n ty W hlen hroom (zeros_cells n) hold h4 hfit
    have hl : (bs ++ List.replicate n 0#8).length = bs.length + n := by rw [List.length_append, hyl]
    have hg := own_grown (n0 := n0) (zs := bs ++ List.replicate n 0#8) (W := W) (cap := grownCap W (bs.length + n) cs.size 5) hn0 rfl (by rw [hl]; exact grownCap_ge _ _ _ _) (grownCap_le_maxLen _ _ _ _ (by simp only [maxLen]; omega))
    rw [hl, show bcells (bs ++ List.replicate n 0#8) = bcells bs ++ bcells (List.replicate n 0#8) by simp [bcells]] at hg
    exact ⟨_, _, hrun, hg, ((Below.refl n0 W).drew).alloc hn0 _, fun zs u _ hu => stab_ownB _ _ _ _ _ (((Below.refl W.heap.size W).drew).alloc (Nat.le_refl _) _) hu⟩
theorem src_row {n0 : Nat} {ys : List (BitVec 8)} {x : Value} {W : World} (h : rowOf n0 ys x W) : Src Try.prog 1 35 x ys.length (bcells ys) W := by
  obtain ⟨p, c, rfl, _, _, h4⟩ := h
  by_cases hys : ys = []
  · subst hys
    refine ⟨.inl ⟨5, Try.underlying35⟩, fun _ => rfl, ?_, ?_, rfl, fun _ h => by cases h⟩
    · cases p <;> simp [Builtin.firstCells, loadCells, loadCellsFrom, bcells]
    · cases p <;> simp [Builtin.firstCells, loadCells, loadCellsFrom, bcells]
  · obtain ⟨b, o, rfl, _, _, hc⟩ := h4.resolve_left hys
    refine Src.ofSlice W Try.underlying35 ⟨b, o, none⟩ ys.length c (bcells ys) (by simp [bcells]) (fun j u hj => ?_) (fun u hu => ?_)
    · rw [bcells_get] at hj
      obtain ⟨y, hy, rfl⟩ := Option.map_eq_some_iff.1 hj
      rw [Addr.add_mid]
      exact hc j y hy
    · simp only [bcells, List.mem_map] at hu
      obtain ⟨_, _, rfl⟩ := hu; rfl
end Go.Proofs.Ytdaebcaokoajjaa
