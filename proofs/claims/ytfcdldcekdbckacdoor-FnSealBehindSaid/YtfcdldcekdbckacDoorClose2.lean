/- How a row of this seat is closed: the call returned true; the arguments and the tables read as they did. And what came in, opened. -/
import Derived.Test.YtfcdldcekdbckacDoorLh
import Derived.Test.YtfcdldcekdbckacDoorTab
import Derived.Test.YtfcdldcekdbckacDoorBlk
import Derived.ProofKit
import Derived.OpenShut
import Derived.OpenVars
import Derived.SizedLaws
namespace Go.Proofs.YtfcdldcekdbckacDoor
open Go Go.ChangeShapes Go.WideShapes Go.ChangeAt Go.RowKit Gf
set_option maxRecDepth 100000

theorem own : ownKnob Tryd.prog.godebug = none := by kernel_rfl
theorem laidOut : laidOutB Tryd.prog = true := by kernel_rfl

section
variable {H : Type} {enc : TypeId × Value → H} {P : Program}

theorem trodAll_below (hl : laidOutB P = true) {W W' : World} (hb : Below W.heap.size W W') : ∀ (ts : List TypeId) (vs : List Value) (ds : List (DataW H)) (ps : List MemPlace),
    (∀ t ∈ ts, P.readableRec t = true ∧ t < P.types.size) → (∀ x ∈ ps, x.block < W.heap.size) → DataW.TrodAll enc P W 0 (fun _ => true) true ts vs ds ps →
    DataW.TrodAll enc P W' 0 (fun b => decide (b < W.heap.size)) true ts vs ds ps
  | [], [], [], _, _, _, h => h
  | t :: ts, v :: vs, d :: ds, _, hr, hlt, h => by
    obtain ⟨p, q, h1, h2, rfl⟩ := h
    refine ⟨p, q, ?_, ?_, rfl⟩
    · exact Below.trod hl (hr t (by simp)).1 (hr t (by simp)).2 h1 hb (fun x hx => hlt x (by simp [hx]))
    · exact trodAll_below hl hb ts vs ds q (fun t ht => hr t (by simp [ht])) (fun x hx => hlt x (by simp [hx])) h2
  | [], [], _ :: _, _, _, _, h => by exact h.elim
  | [], _ :: _, _, _, _, _, h => by cases h
  | _ :: _, [], _, _, _, _, h => by cases h
  | _ :: _, _ :: _, [], _, _, _, h => by cases h

/-- THE CLOSE OF A LAW: the call has returned true, the arguments and the variables read as they did. -/
theorem post_true (hl : laidOutB P = true) {f : Func} {s : ChangeSpec} {W W' : World} {args : Array Value} {ds gs : List (DataW H)} {before : List MemPlace} {tb : TypeId}
    (hW : DataW.Whole enc P f.params.toList s.vars false W args.toList ds gs before) (hvr : varsRowed P s.vars = true)
    (hfn : s.fn H (ds ++ gs) = { results := [.lit (.bool true)], args := ds, vars := gs })
    (hrd : ∀ t ∈ f.params.toList, P.readableRec t = true ∧ t < P.types.size) (hrt : f.resultTypes = #[tb]) (hbt : P.underlying tb = some .bool)
    (hb : Below W.heap.size W W') : s.post enc P f false true false false W args (.bool true) W' := by
  have hlt := hW.lt
  obtain ⟨p, q, hA, hV, rfl, hz, hn⟩ := hW
  refine ⟨ds, gs, p ++ q, [], p, q, ⟨p, q, hA, hV, rfl, hz, hn⟩, ?_, ?_, ?_, hb.frame _, fun h => by cases h⟩
  · rw [hfn, hrt]
    exact trodAll_cons_mk (shut_bool hbt true) trodAll_mk0
  · rw [hfn]
    exact trodAll_below hl hb _ _ _ _ hrd (fun x hx => hlt x (by simp [hx])) hA
  · rw [hfn]
    exact Below.trodVars hl hb hvr hV
end

theorem open_n32 {a : Int} (h : (Lit.int .u32 a).wf = true) : ∃ x : BitVec 32, a = n32 x := by
  have hx : 0 ≤ a ∧ a ≤ 4294967295 := by simpa [Lit.wf, IntKind.min, IntKind.max, IntKind.signed, IntKind.bits] using h
  exact ⟨_, n32_of a hx.1 hx.2⟩
theorem open_n64 {a : Int} (h : (Lit.int .u64 a).wf = true) : ∃ x : BitVec 64, a = n64 x := by
  have hx : 0 ≤ a ∧ a ≤ 18446744073709551615 := by simpa [Lit.wf, IntKind.min, IntKind.max, IntKind.signed, IntKind.bits] using h
  exact ⟨_, n64_of a hx.1 hx.2⟩
theorem open_n8 {a : Int} (h : (Lit.int .u8 a).wf = true) : ∃ x : BitVec 8, a = n8 x := by
  have hx : 0 ≤ a ∧ a ≤ 255 := by simpa [Lit.wf, IntKind.min, IntKind.max, IntKind.signed, IntKind.bits] using h
  exact ⟨_, n8_of a hx.1 hx.2⟩

/-- The laws' parameters' types can be read. -/
def readTypes : List TypeId := [3, 57, 69, 22]
theorem readTypes_ok : ∀ t ∈ readTypes, Tryd.prog.readableRec t = true ∧ t < Tryd.prog.types.size := by
  intro t ht
  have h0 : Tryd.prog.readableRec 3 = true ∧ 3 < Tryd.prog.types.size := ⟨by kernel_rfl, of_decide_eq_true (by kernel_rfl)⟩
  have h1 : Tryd.prog.readableRec 57 = true ∧ 57 < Tryd.prog.types.size := ⟨by kernel_rfl, of_decide_eq_true (by kernel_rfl)⟩
  have h2 : Tryd.prog.readableRec 69 = true ∧ 69 < Tryd.prog.types.size := ⟨by kernel_rfl, of_decide_eq_true (by kernel_rfl)⟩
  have h3 : Tryd.prog.readableRec 22 = true ∧ 22 < Tryd.prog.types.size := ⟨by kernel_rfl, of_decide_eq_true (by kernel_rfl)⟩
  simp only [readTypes, List.mem_cons, List.not_mem_nil, or_false] at ht
  rcases ht with rfl | rfl | rfl | rfl <;> assumption
theorem readables {ts : List TypeId} (h : ∀ t ∈ ts, t ∈ readTypes) : ∀ t ∈ ts, Tryd.prog.readableRec t = true ∧ t < Tryd.prog.types.size := fun t ht => readTypes_ok t (h t ht)

section
variable {H : Type} {enc : TypeId × Value → H}
theorem rowOf_ints {W : World} (a : Option Addr) (len cap : Nat) (zs : List Int) (h3 : len ≤ cap) (h4 : cap ≤ maxLen) (h5 : zs.length = cap) (h6 : a = none → cap = 0)
    (h7 : ∀ a', a = some a' → ∀ i, i < cap → W.cell? (a'.add i) = some (.int .u8 (zs.getD i 0))) (h8 : ∀ n ∈ zs, (Lit.int .u8 n).wf = true) : rowOf 0 ((zs.take len).map (BitVec.ofInt 8)) (.slice a len cap) W := by
  have hcap : (cap : Int) ≤ 9223372036854775807 := by simp only [maxLen] at h4; omega
  have hl : ((zs.take len).map (BitVec.ofInt 8)).length = len := by simp; omega
  by_cases hp : 0 < zs.length
  · cases a with
    | none => have := h6 rfl; omega
    | some a =>
      obtain ⟨b, o, rfl, hcell⟩ := ints_at (fun i hi => h7 a rfl i (by omega)) hp
      refine ⟨some ⟨b, o, none⟩, cap, by rw [hl], by rw [hl]; exact h3, hcap, .inr ⟨b, o, rfl, Nat.zero_le _, ?_, fun i x hx => ?_⟩⟩
      · have h := hcell 0 hp
        obtain ⟨ob, hob, _⟩ := cells_of_cell h
        exact (Array.getElem?_eq_some_iff.1 hob).1
      · simp only [List.getElem?_map, Option.map_eq_some_iff] at hx
        obtain ⟨z, hz, rfl⟩ := hx
        have hi : i < (zs.take len).length := (List.getElem?_eq_some_iff.1 hz).1
        have hi2 : i < zs.length := by simp at hi; omega
        have hz2 : zs[i]? = some z := by rw [List.getElem?_take] at hz; split at hz; exact hz; cases hz
        rw [hcell i hi2]
        have hzz : zs.getD i 0 = z := by rw [List.getD_eq_getElem?_getD, hz2]; rfl
        rw [hzz]
        have hw := bounds_u8 (h8 z (List.mem_of_getElem? hz2))
        exact congrArg (fun n => some (Value.int .u8 n)) (n8_of z hw.1 hw.2)
  · have e : zs = [] := List.length_eq_zero_iff.1 (by omega)
    subst e
    exact ⟨a, cap, by rw [hl], by rw [hl]; exact h3, hcap, .inl (by simp)⟩
theorem open_bytes {W : World} {base : Nat} {v : Value} {d : DataW H} {p : List MemPlace} (hval : Value.okWide Tryd.prog W .any base 22 v)
    (h : DataW.Trod enc Tryd.prog W 0 (fun _ => true) true 22 v d p) : ∃ bs, rowOf 0 bs v W := by
  unfold Value.okWide at hval
  rw [Tryd.underlying22] at hval
  obtain ⟨fuel, hf⟩ := h
  have c5 : Tryd.prog.cellsOf 5 = 1 := by kernel_rfl
  have hne : ∀ cs, v ≠ .agg cs := by
    rintro cs rfl
    simp [Cell.okWide, Cell.ok, Tryd.underlying22] at hval
  have hc : v.cells.toList = [v] := by cases v <;> first | rfl | exact absurd rfl (hne _)
  rw [hc] at hf
  rcases open_ints Tryd.underlying22 Tryd.underlying5 c5 hf with ⟨h0, _⟩ | ⟨a, len, cap, zs, h1, _, h3, h4, h5, _, h7, h8⟩
  · have e : v = .slice none 0 0 := by simpa using h0
    exact ⟨[], none, 0, e, by simp, by decide, .inl rfl⟩
  · have e : v = .slice (some a) len cap := by simpa using h1
    simp only [if_true] at h5
    rw [e]
    exact ⟨_, rowOf_ints (some a) len cap zs h3 h4 h5 (fun h => by cases h) (fun a' ha i hi => by
      obtain rfl := Option.some.inj ha
      exact h7 i (by omega)) h8⟩

theorem open_b16 {W : World} {base : Nat} {v : Value} {d : DataW H} {p : List MemPlace} (hval : Value.okWide Tryd.prog W .any base 69 v)
    (h : DataW.Trod enc Tryd.prog W 0 (fun _ => true) true 69 v d p) : ∃ x, v = .agg (blk x) := by
  unfold Value.okWide at hval
  rw [Tryd.underlying69] at hval
  obtain ⟨cs, rfl, hsz, _⟩ := hval
  obtain ⟨fuel, hf⟩ := h
  obtain ⟨xs, m, _, ex, hlen, hl, hel⟩ := DataW.trod_array Tryd.underlying69 hf
  have c5 : Tryd.prog.cellsOf 5 = 1 := by kernel_rfl
  have ct : Tryd.prog.cellsOf 69 = 16 := by kernel_rfl
  rw [ct] at hsz
  let f : Nat → BitVec 8 := fun i => match cs[i]? with
    | some (.int .u8 z) => BitVec.ofInt 8 z
    | _ => 0#8
  have key : ∀ i, i < 16 → cs[i]? = some (.int .u8 (n8 (f i))) := by
    intro i hi
    have hE := hel i hi
    rw [c5, Nat.mul_one, List.getElem?_eq_getElem (by omega)] at hE
    obtain ⟨z, e1, e2, hw⟩ := DataW.trod_int Tryd.underlying5 hE
    have hz : 0 ≤ z ∧ z ≤ 255 := by simpa [Lit.wf, IntKind.min, IntKind.max, IntKind.signed, IntKind.bits] using hw
    have e3 : cs[i]? = some (.int .u8 z) := by
      have h0 : (((Value.agg cs).cells.toList.drop i).take 1)[0]? = some (.int .u8 z) := by rw [e1]; rfl
      simpa [Value.cells] using h0
    have e4 : f i = BitVec.ofInt 8 z := by simp only [f]; rw [e3]
    rw [e3, e4]
    exact congrArg (fun n => some (Value.int .u8 n)) (n8_of z hz.1 hz.2)
  refine ⟨ofBytes f, congrArg Value.agg (Array.ext_getElem? fun i => ?_)⟩
  by_cases hi : i < 16
  · rw [key i hi, blk_get _ i hi, byte_of f i hi]
  · rw [Array.getElem?_eq_none (by omega), Array.getElem?_eq_none (by rw [blk_size]; omega)]
/-- A variable of words, opened. -/
theorem open_ws {W : World} {n : String} {g : Nat} {ns : List String} {gs : List (DataW H)} {q : List MemPlace} (hg : Tryd.prog.globalNamed n = some g) (ht : (Tryd.prog.globals[g]?).map (·.type) = some 97)
    (h : DataW.TrodVars enc Tryd.prog W (fun _ => true) (n :: ns) gs q) : ∃ (f : Nat → BitVec 32) (gs' : List (DataW H)) (q' : List MemPlace), Ws W g f ∧ g < W.heap.size ∧ DataW.TrodVars enc Tryd.prog W (fun _ => true) ns gs' q' := by
  cases gs with
  | nil => exact h.elim
  | cons d ds =>
    obtain ⟨g', t, cs, fuel, p, q', h1, h2, h3, h4, h5, _⟩ := h
    obtain rfl := Option.some.inj (hg.symm.trans h1)
    obtain rfl := Option.some.inj (ht.symm.trans h2)
    obtain ⟨xs, m, _, _, hlen, hl, hel⟩ := DataW.trod_array Tryd.underlying97 h4
    have c5 : Tryd.prog.cellsOf 45 = 1 := by kernel_rfl
    let f : Nat → BitVec 32 := fun i => match cs[i]? with
      | some (.int .u32 z) => BitVec.ofInt 32 z
      | _ => 0#32
    have ct : Tryd.prog.cellsOf 97 = 256 := by kernel_rfl
    rw [ct] at hlen
    rw [Array.length_toList] at hlen
    have key : ∀ i, i < 256 → cs[i]? = some (.int .u32 (n32 (f i))) := by
      intro i hi
      have hE := hel i hi
      rw [c5, Nat.mul_one, List.getElem?_eq_getElem (by omega)] at hE
      obtain ⟨z, e1, e2, hw⟩ := DataW.trod_int Tryd.underlying45 hE
      have hz : 0 ≤ z ∧ z ≤ 4294967295 := by simpa [Lit.wf, IntKind.min, IntKind.max, IntKind.signed, IntKind.bits] using hw
      have e3 : cs[i]? = some (.int .u32 z) := by
        have h0 : ((cs.toList.drop i).take 1)[0]? = some (.int .u32 z) := by rw [e1]; rfl
        simpa using h0
      have e4 : f i = BitVec.ofInt 32 z := by simp only [f]; rw [e3]
      rw [e3, e4]
      exact congrArg (fun n => some (Value.int .u32 n)) (n32_of z hz.1 hz.2)
    refine ⟨f, ds, q', fun i hi => (World.var?_cell hg h3 i).trans (key i hi), ?_, h5⟩
    have h0 := (World.var?_cell hg h3 0).trans (key 0 (by decide))
    obtain ⟨ob, hob, _⟩ := cells_of_cell h0
    exact (Array.getElem?_eq_some_iff.1 hob).1
/-- A variable of bytes, opened. -/
theorem open_bs {W : World} {n : String} {g k : Nat} {t0 : TypeId} {ns : List String} {gs : List (DataW H)} {q : List MemPlace} (hk : 0 < k) (hg : Tryd.prog.globalNamed n = some g) (ht : (Tryd.prog.globals[g]?).map (·.type) = some t0)
    (hu : Tryd.prog.underlying t0 = some (.array k 5)) (ct : Tryd.prog.cellsOf t0 = k)
    (h : DataW.TrodVars enc Tryd.prog W (fun _ => true) (n :: ns) gs q) : ∃ (f : Nat → BitVec 8) (gs' : List (DataW H)) (q' : List MemPlace), Bs W g k f ∧ g < W.heap.size ∧ DataW.TrodVars enc Tryd.prog W (fun _ => true) ns gs' q' := by
  cases gs with
  | nil => exact h.elim
  | cons d ds =>
    obtain ⟨g', t, cs, fuel, p, q', h1, h2, h3, h4, h5, _⟩ := h
    obtain rfl := Option.some.inj (hg.symm.trans h1)
    obtain rfl := Option.some.inj (ht.symm.trans h2)
    obtain ⟨xs, m, _, _, hlen, hl, hel⟩ := DataW.trod_array hu h4
    have c5 : Tryd.prog.cellsOf 5 = 1 := by kernel_rfl
    let f : Nat → BitVec 8 := fun i => match cs[i]? with
      | some (.int .u8 z) => BitVec.ofInt 8 z
      | _ => 0#8
    rw [ct] at hlen
    rw [Array.length_toList] at hlen
    have key : ∀ i, i < k → cs[i]? = some (.int .u8 (n8 (f i))) := by
      intro i hi
      have hE := hel i hi
      rw [c5, Nat.mul_one, List.getElem?_eq_getElem (by omega)] at hE
      obtain ⟨z, e1, e2, hw⟩ := DataW.trod_int Tryd.underlying5 hE
      have hz : 0 ≤ z ∧ z ≤ 255 := by simpa [Lit.wf, IntKind.min, IntKind.max, IntKind.signed, IntKind.bits] using hw
      have e3 : cs[i]? = some (.int .u8 z) := by
        have h0 : ((cs.toList.drop i).take 1)[0]? = some (.int .u8 z) := by rw [e1]; rfl
        simpa using h0
      have e4 : f i = BitVec.ofInt 8 z := by simp only [f]; rw [e3]
      rw [e3, e4]
      exact congrArg (fun n => some (Value.int .u8 n)) (n8_of z hz.1 hz.2)
    refine ⟨f, ds, q', fun i hi => (World.var?_cell hg h3 i).trans (key i hi), ?_, h5⟩
    have h0 := (World.var?_cell hg h3 0).trans (key 0 hk)
    obtain ⟨ob, hob, _⟩ := cells_of_cell h0
    exact (Array.getElem?_eq_some_iff.1 hob).1
/-- The tables' names, as the rows list them. -/
def tabNames : List String := ["loop.example/pub-g03026/pub/aes.powx", "loop.example/pub-g03026/pub/aes.sbox0", "loop.example/pub-g03026/pub/aes.td0", "loop.example/pub-g03026/pub/aes.td1", "loop.example/pub-g03026/pub/aes.td2", "loop.example/pub-g03026/pub/aes.td3", "loop.example/pub-g03026/pub/aes.te0", "loop.example/pub-g03026/pub/aes.te1", "loop.example/pub-g03026/pub/aes.te2", "loop.example/pub-g03026/pub/aes.te3"]
theorem open_tabs {W : World} {gs : List (DataW H)} {q : List MemPlace} (h : DataW.TrodVars enc Tryd.prog W (fun _ => true) tabNames gs q) : ∃ T, TabAt T W := by
  obtain ⟨px, _, _, a0, b0, h⟩ := open_bs (g := 1) (k := 16) (t0 := 69) (by decide) (by kernel_rfl) (by kernel_rfl) Tryd.underlying69 (by kernel_rfl) h
  obtain ⟨sb, _, _, a1, b1, h⟩ := open_bs (g := 3) (k := 256) (t0 := 98) (by decide) (by kernel_rfl) (by kernel_rfl) Tryd.underlying98 (by kernel_rfl) h
  obtain ⟨d0, _, _, a2, b2, h⟩ := open_ws (g := 2) (by kernel_rfl) (by kernel_rfl) h
  obtain ⟨d1, _, _, a3, b3, h⟩ := open_ws (g := 4) (by kernel_rfl) (by kernel_rfl) h
  obtain ⟨d2, _, _, a4, b4, h⟩ := open_ws (g := 5) (by kernel_rfl) (by kernel_rfl) h
  obtain ⟨d3, _, _, a5, b5, h⟩ := open_ws (g := 6) (by kernel_rfl) (by kernel_rfl) h
  obtain ⟨e0, _, _, a6, b6, h⟩ := open_ws (g := 7) (by kernel_rfl) (by kernel_rfl) h
  obtain ⟨e1, _, _, a7, b7, h⟩ := open_ws (g := 8) (by kernel_rfl) (by kernel_rfl) h
  obtain ⟨e2, _, _, a8, b8, h⟩ := open_ws (g := 9) (by kernel_rfl) (by kernel_rfl) h
  obtain ⟨e3, _, _, a9, b9, _⟩ := open_ws (g := 10) (by kernel_rfl) (by kernel_rfl) h
  exact ⟨⟨e0, e1, e2, e3, d0, d1, d2, d3, sb, px⟩, by unfold nG; omega, a6, a7, a8, a9, a2, a3, a4, a5, a1, a0⟩
theorem tabs_ten {W : World} {gs : List (DataW H)} {q : List MemPlace} (h : DataW.TrodVars enc Tryd.prog W (fun _ => true) tabNames gs q) : ∃ g1 g2 g3 g4 g5 g6 g7 g8 g9 g10, gs = [g1, g2, g3, g4, g5, g6, g7, g8, g9, g10] := by
  have key : ∀ (ns : List String) (gs : List (DataW H)) (q : List MemPlace), DataW.TrodVars enc Tryd.prog W (fun _ => true) ns gs q → gs.length = ns.length := by
    intro ns
    induction ns with
    | nil => intro gs q h; obtain ⟨rfl, _⟩ := trodVars_none h; rfl
    | cons n ns ih =>
      intro gs q h
      cases gs with
      | nil => exact h.elim
      | cons d ds =>
        obtain ⟨_, _, _, _, _, _, _, _, _, _, h5, _⟩ := h
        simp [ih _ _ h5]
  have hl : gs.length = 10 := key _ _ _ h
  match gs, hl with
  | [a, b, c, d, e, f, g, h, i, j], _ => exact ⟨a, b, c, d, e, f, g, h, i, j, rfl⟩
end
end Go.Proofs.YtfcdldcekdbckacDoor
