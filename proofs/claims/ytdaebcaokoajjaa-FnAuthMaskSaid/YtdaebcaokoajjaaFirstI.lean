/- The thin package's first counter and tag; the reference's. -/
import Derived.Test.YtdaebcaokoajjaaAuth
import Derived.Test.YtdaebcaokoajjaaOwn
import Derived.Test.YtdaebcaokoajjaaJoined
import Derived.Test.YtdaebcaokoajjaaSHash
namespace Go.Proofs.Ytdaebcaokoajjaa
open Go Go.RowKit Gf

set_option maxHeartbeats 2000000 in
theorem firstI_any (h : BitVec 128) (bs : List (BitVec 8)) (v : Value) (w : World) (hr0 : rowOf 0 bs v w) (hlen : bs.length ≤ 2147483647) :
    Calls Try.prog 37 #[.agg (blk h), v] w fun e w' => e = .returned (.agg (blk (firstOf h bs))) ∧ Below w.heap.size w w' := by
  have p0 : objAt ((w.alloc (.cells (blk h) 27)).alloc (.cells (blk 0#128) 27)) w.heap.size = some (.cells (blk h) 27 (0, 0)) := by simp [go_sem]
  have p1 : objAt ((w.alloc (.cells (blk h) 27)).alloc (.cells (blk 0#128) 27)) (w.heap.size + 1) = some (.cells (blk 0#128) 27 (0, 0)) := by simp [go_sem]
  have hB0 : Below w.heap.size w ((w.alloc (.cells (blk h) 27)).alloc (.cells (blk 0#128) 27)) := by go_grown
  have hr := stab_rowOf _ _ _ _ _ hB0 hr0
  obtain ⟨p, c, rfl⟩ := hr0.slice
  clear hr0
  go_enter Try.func37, Try.ntmps37
  go_wp2
  generalize (w.alloc (.cells (blk h) 27)).alloc (.cells (blk 0#128) 27) = W0 at p0 p1 hB0 hr ⊢
  refine wp_region_rel (l := [_, _, _, _]) (last := _) (fun w' => Hid (Below W0.heap.size W0 w'))
    [isv (.agg (blk h)), isv (.slice p bs.length c), rowOf 0 bs, isv (.agg (blk (firstOf h bs)))]
    (by kernel_rfl) (by kernel_rfl) (Lib.hid ((Below.refl _ _).drew)) (fun _ _ hb hS => held0 hb hS) ?rstab ?rops ?rlast
  case rstab => exact stabs_cons (stab_isv _) (stabs_cons (stab_isv _) (stabs_cons (stab_rowOf _ _) (stabs_cons (stab_isv _) stabs_nil)))
  case rops =>
    refine ⟨?_, ?_, ?_, ?_, trivial⟩
    · intro u w' hS hd
      have p0' := oa_below p0 hS.out (oa_lt p0)
      refine opV_val (v := .agg (blk h)) (by rfl) ?_ rfl
      simp only [frameOf, Act.put, List.setIfInBounds_toArray, List.set_cons_zero, List.set_cons_succ]
      go_simp
    · intro u w' hS hd
      refine opV_val (v := .slice p bs.length c) (by rfl) ?_ rfl
      simp only [frameOf, Act.put, List.setIfInBounds_toArray, List.set_cons_zero, List.set_cons_succ]
      go_simp
    · intro u w' hS hd
      have d1 : u 1 = .slice p bs.length c := hd ⟨1, .data⟩ (by simp) rfl
      refine opV_call (f := 46) (args := #[.slice p bs.length c]) (by rfl) ?_ ((copied_any w' bs (.slice p bs.length c) (stab_rowOf _ _ _ _ _ hS.out hr) (by omega)).mono fun e w2 ⟨v', he, hb, hr⟩ => ⟨v', he, hb, hr.mono (Nat.zero_le _)⟩)
      simp only [frameOf, Act.put, List.setIfInBounds_toArray, List.set_cons_zero, List.set_cons_succ]
      go_simp
    · intro u w' hS hd
      have d0 : u 0 = .agg (blk h) := hd ⟨0, .data⟩ (by simp) rfl
      have d2 : (rowOf 0 bs) (u 2) w' := hd ⟨2, .data⟩ (by simp) rfl
      refine opV_callB (f := 50) (args := #[.agg (blk h), u 2]) (by rfl) ?_ (zderive_any h bs (u 2) w' d2 hlen)
      simp only [frameOf, Act.put, List.setIfInBounds_toArray, List.set_cons_zero, List.set_cons_succ]
      go_simp
  case rlast =>
    intro u w1 hS hV
    have d3 : u 3 = .agg (blk (firstOf h bs)) := hV 3 (by decide)
    have p1' := oa_below p1 hS.out (oa_lt p1)
    simp only [frameOf, Act.put, List.setIfInBounds_toArray, List.set_cons_zero, List.set_cons_succ]
    simp only [wpOp, List.length_cons, List.length_nil, Nat.zero_add, Nat.reduceAdd]
    go_simp
    refine .inl ?_
    go_wp2
    refine bodyPost_ret (retA (x := firstOf h bs) (t := 27) (fr := (0, 0)) rfl rfl (objAt_setRow_same p1' _)) rfl ⟨rfl, ?_⟩
    exact bel_setRow (hB0.trans (hS.out.mono hB0.size)) (by omega) _

set_option maxHeartbeats 2000000 in
theorem authI_any (h m : BitVec 128) (cs ds : List (BitVec 8)) (vc vd : Value) (w : World) (hc0 : rowOf 0 cs vc w) (hd0 : rowOf 0 ds vd w) (hcl : cs.length ≤ 2147483647) (hdl : ds.length ≤ 2147483647) :
    Calls Try.prog 39 #[.agg (blk h), .agg (blk m), vc, vd] w fun e w' => e = .returned (.agg (blk (tagOf h m cs ds))) ∧ Below w.heap.size w w' := by
  have p0 : objAt (((w.alloc (.cells (blk h) 27)).alloc (.cells (blk m) 27)).alloc (.cells (blk 0#128) 27)) w.heap.size = some (.cells (blk h) 27 (0, 0)) := by simp [go_sem]
  have p1 : objAt (((w.alloc (.cells (blk h) 27)).alloc (.cells (blk m) 27)).alloc (.cells (blk 0#128) 27)) (w.heap.size + 1) = some (.cells (blk m) 27 (0, 0)) := by simp [go_sem]
  have p2 : objAt (((w.alloc (.cells (blk h) 27)).alloc (.cells (blk m) 27)).alloc (.cells (blk 0#128) 27)) (w.heap.size + 1 + 1) = some (.cells (blk 0#128) 27 (0, 0)) := by simp [go_sem]
  have hB0 : Below w.heap.size w (((w.alloc (.cells (blk h) 27)).alloc (.cells (blk m) 27)).alloc (.cells (blk 0#128) 27)) := by go_grown
  have hc := stab_rowOf _ _ _ _ _ hB0 hc0
  have hrd := stab_rowOf _ _ _ _ _ hB0 hd0
  obtain ⟨pc, cc, rfl⟩ := hc0.slice
  obtain ⟨pd, cd, rfl⟩ := hd0.slice
  clear hc0 hd0
  go_enter Try.func39, Try.ntmps39
  go_wp2
  generalize ((w.alloc (.cells (blk h) 27)).alloc (.cells (blk m) 27)).alloc (.cells (blk 0#128) 27) = W0 at p0 p1 p2 hB0 hc hrd ⊢
  refine wp_region_rel (l := [_, _, _, _, _, _, _]) (last := _) (fun w' => Hid (Below W0.heap.size W0 w'))
    [isv (.agg (blk h)), isv (.agg (blk m)), isv (.slice pc cs.length cc), rowOf 0 cs, isv (.slice pd ds.length cd), rowOf 0 ds, isv (.agg (blk (tagOf h m cs ds)))]
    (by kernel_rfl) (by kernel_rfl) (Lib.hid ((Below.refl _ _).drew)) (fun _ _ hb hS => held0 hb hS) ?rstab ?rops ?rlast
  case rstab => exact stabs_cons (stab_isv _) (stabs_cons (stab_isv _) (stabs_cons (stab_isv _) (stabs_cons (stab_rowOf _ _) (stabs_cons (stab_isv _) (stabs_cons (stab_rowOf _ _) (stabs_cons (stab_isv _) stabs_nil))))))
  case rops =>
    refine ⟨?_, ?_, ?_, ?_, ?_, ?_, ?_, trivial⟩
    · intro u w' hS hd
      have p0' := oa_below p0 hS.out (oa_lt p0)
      refine opV_val (v := .agg (blk h)) (by rfl) ?_ rfl
      simp only [frameOf, Act.put, List.setIfInBounds_toArray, List.set_cons_zero, List.set_cons_succ]
      go_simp
    · intro u w' hS hd
      have p1' := oa_below p1 hS.out (oa_lt p1)
      refine opV_val (v := .agg (blk m)) (by rfl) ?_ rfl
      simp only [frameOf, Act.put, List.setIfInBounds_toArray, List.set_cons_zero, List.set_cons_succ]
      go_simp
    · intro u w' hS hd
      refine opV_val (v := .slice pc cs.length cc) (by rfl) ?_ rfl
      simp only [frameOf, Act.put, List.setIfInBounds_toArray, List.set_cons_zero, List.set_cons_succ]
      go_simp
    · intro u w' hS hd
      have d2 : u 2 = .slice pc cs.length cc := hd ⟨2, .data⟩ (by simp) rfl
      refine opV_call (f := 46) (args := #[.slice pc cs.length cc]) (by rfl) ?_ ((copied_any w' cs (.slice pc cs.length cc) (stab_rowOf _ _ _ _ _ hS.out hc) (by omega)).mono fun e w2 ⟨v', he, hb, hr⟩ => ⟨v', he, hb, hr.mono (Nat.zero_le _)⟩)
      simp only [frameOf, Act.put, List.setIfInBounds_toArray, List.set_cons_zero, List.set_cons_succ]
      go_simp
    · intro u w' hS hd
      refine opV_val (v := .slice pd ds.length cd) (by rfl) ?_ rfl
      simp only [frameOf, Act.put, List.setIfInBounds_toArray, List.set_cons_zero, List.set_cons_succ]
      go_simp
    · intro u w' hS hd
      have d4 : u 4 = .slice pd ds.length cd := hd ⟨4, .data⟩ (by simp) rfl
      refine opV_call (f := 46) (args := #[.slice pd ds.length cd]) (by rfl) ?_ ((copied_any w' ds (.slice pd ds.length cd) (stab_rowOf _ _ _ _ _ hS.out hrd) (by omega)).mono fun e w2 ⟨v', he, hb, hr⟩ => ⟨v', he, hb, hr.mono (Nat.zero_le _)⟩)
      simp only [frameOf, Act.put, List.setIfInBounds_toArray, List.set_cons_zero, List.set_cons_succ]
      go_simp
    · intro u w' hS hd
      have d0 : u 0 = .agg (blk h) := hd ⟨0, .data⟩ (by simp) rfl
      have d1 : u 1 = .agg (blk m) := hd ⟨1, .data⟩ (by simp) rfl
      have d3 : (rowOf 0 cs) (u 3) w' := hd ⟨3, .data⟩ (by simp) rfl
      have d5 : (rowOf 0 ds) (u 5) w' := hd ⟨5, .data⟩ (by simp) rfl
      refine opV_callB (f := 52) (args := #[.agg (blk h), .agg (blk m), u 3, u 5]) (by rfl) ?_ (zauth_any h m cs ds (u 3) (u 5) w' d3 d5 hcl hdl)
      simp only [frameOf, Act.put, List.setIfInBounds_toArray, List.set_cons_zero, List.set_cons_succ]
      go_simp
  case rlast =>
    intro u w1 hS hV
    have d6 : u 6 = .agg (blk (tagOf h m cs ds)) := hV 6 (by decide)
    have p2' := oa_below p2 hS.out (oa_lt p2)
    simp only [frameOf, Act.put, List.setIfInBounds_toArray, List.set_cons_zero, List.set_cons_succ]
    simp only [wpOp, List.length_cons, List.length_nil, Nat.zero_add, Nat.reduceAdd]
    go_simp
    refine .inl ?_
    go_wp2
    refine bodyPost_ret (retA (x := tagOf h m cs ds) (t := 27) (fr := (0, 0)) rfl rfl (objAt_setRow_same p2' _)) rfl ⟨rfl, ?_⟩
    exact bel_setRow (hB0.trans (hS.out.mono hB0.size)) (by omega) _

theorem ownB.mono {n0 n1 : Nat} {bs : List (BitVec 8)} {v : Value} {w : World} (h : ownB n0 bs v w) (hn : n1 ≤ n0) : ownB n1 bs v w := by
  obtain ⟨N, cs, h1, h2, h3⟩ := h
  exact ⟨N, cs, h1, by omega, h3⟩
theorem run_make8 (w : World) : (Instr.makeSlice 35 (.int .i64 8) (.int .i64 8)).run Try.prog w = .ok (.slice (some ⟨w.heap.size, 0, none⟩) 8 8) (w.alloc (.cells (madeCells (Value.int .u8 0).cells 8) 5)) := run_make0 w 8 (by decide)
theorem own_made8 {n0 : Nat} {w : World} (h : n0 ≤ w.heap.size) : ownB n0 (List.replicate 8 0#8) (.slice (some ⟨w.heap.size, 0, none⟩) 8 8) (w.alloc (.cells (madeCells (Value.int .u8 0).cells 8) 5)) := by
  have hs : (madeCells (Value.int .u8 0).cells 8).size = 8 := by rw [size_madeCells]
  refine ⟨w.heap.size, madeCells (Value.int .u8 0).cells 8, by rw [hs]; simp, h, objAt_alloc_at _ _ _ rfl, by rw [hs]; decide, by rw [hs]; decide, fun i x hx => ?_⟩
  have hi : i < 8 := by have := (List.getElem?_eq_some_iff.1 hx).1; simpa using this
  have hx' : x = 0#8 := List.eq_of_mem_replicate (List.mem_of_getElem? hx)
  subst hx'
  have hc : (Value.int .u8 0).cells = #[.int .u8 0] := rfl
  unfold madeCells
  rw [hc]
  simp [hi, Nat.mod_one, n8]
@[go_sem] theorem shr64_56 (x : BitVec 64) : n64 x / 72057594037927936 = n64 (wshr x 56) := shr64 x 56
@[go_sem] theorem shr64_48 (x : BitVec 64) : n64 x / 281474976710656 = n64 (wshr x 48) := shr64 x 48
@[go_sem] theorem shr64_40 (x : BitVec 64) : n64 x / 1099511627776 = n64 (wshr x 40) := shr64 x 40
@[go_sem] theorem shr64_24 (x : BitVec 64) : n64 x / 16777216 = n64 (wshr x 24) := shr64 x 24
@[go_sem] theorem shr64_16 (x : BitVec 64) : n64 x / 65536 = n64 (wshr x 16) := shr64 x 16
@[go_sem] theorem shr64_8 (x : BitVec 64) : n64 x / 256 = n64 (wshr x 8) := shr64 x 8
theorem own_lit8 {n0 : Nat} {x : BitVec 64} {w : World} (h : n0 ≤ w.heap.size) : ownB n0 (be64 x) (.slice (some ⟨w.heap.size, 0, none⟩) 8 8) (w.alloc (.cells #[.int .u8 (n8 (wext 8 (wshr x 56))), .int .u8 (n8 (wext 8 (wshr x 48))), .int .u8 (n8 (wext 8 (wshr x 40))), .int .u8 (n8 (wext 8 (wshr x 32))), .int .u8 (n8 (wext 8 (wshr x 24))), .int .u8 (n8 (wext 8 (wshr x 16))), .int .u8 (n8 (wext 8 (wshr x 8))), .int .u8 (n8 (wext 8 x))] 5)) := by
  refine ⟨w.heap.size, _, by rfl, h, objAt_alloc_at _ _ _ rfl, by simp [be64], by simp [maxLen], fun i y hy => ?_⟩
  have hi : i < 8 := by have := (List.getElem?_eq_some_iff.1 hy).1; rwa [be64_length] at this
  rw [be64_get _ _ hi] at hy
  obtain rfl := Option.some.inj hy
  match i, hi with
  | 0, _ => rfl
  | 1, _ => rfl
  | 2, _ => rfl
  | 3, _ => rfl
  | 4, _ => rfl
  | 5, _ => rfl
  | 6, _ => rfl
  | 7, _ => rfl
set_option maxHeartbeats 1000000 in
theorem long_any (bs : List (BitVec 8)) (v : Value) (w : World) (hr : rowOf 0 bs v w) (hlen : bs.length ≤ 2147483647) :
    Calls Try.prog 51 #[v] w fun e w' => ∃ v', e = .returned v' ∧ Below w.heap.size w w' ∧ ownB w.heap.size (be64 (bits8 bs.length)) v' w' := by
  obtain ⟨p, c, rfl⟩ := hr.slice
  clear hr
  have e0 := u64len bs.length hlen
  have e1 := u64bits' bs.length
  have hn := Lib.hid hlen
  clear hlen
  go_enter Try.func51, Try.ntmps51
  go_wp2
  go_ret
  exact ⟨_, rfl, (Below.refl _ _).alloc (Nat.le_refl _) _, own_lit8 (Nat.le_refl _)⟩
theorem rows_new3 {es bs cs : List (BitVec 8)} {v u t : Value} {w : World} {N : Nat} (h : rowOf 0 es v w) (h' : rowOf 0 bs u w) (h'' : rowOf 0 cs t w) (hN : N = w.heap.size) : rowsOf 0 [es, bs, cs] (.slice (some ⟨N, 0, none⟩) 3 3) (w.alloc (.cells #[v, u, t] 35)) := by
  subst hN
  refine ⟨_, 3, rfl, Nat.le_refl _, by decide, .inr ⟨w.heap.size, 0, rfl, Nat.zero_le _, by simp, fun i x hi => ?_⟩⟩
  have hn : objAt (w.alloc (.cells #[v, u, t] 35)) w.heap.size = some (.cells #[v, u, t] 35 (0, 0)) := objAt_alloc_at _ _ _ rfl
  match i, hi with
  | 0, hi =>
    obtain rfl : es = x := by simpa using hi
    exact ⟨v, (objAt_cell hn 0).trans rfl, stab_rowOf _ _ _ _ _ ((Below.refl _ _).alloc (Nat.le_refl _) _) h⟩
  | 1, hi =>
    obtain rfl : bs = x := by simpa using hi
    exact ⟨u, (objAt_cell hn 1).trans rfl, stab_rowOf _ _ _ _ _ ((Below.refl _ _).alloc (Nat.le_refl _) _) h'⟩
  | 2, hi =>
    obtain rfl : cs = x := by simpa using hi
    exact ⟨t, (objAt_cell hn 2).trans rfl, stab_rowOf _ _ _ _ _ ((Below.refl _ _).alloc (Nat.le_refl _) _) h''⟩
  | i + 3, hi => simp at hi

set_option maxHeartbeats 1000000 in
theorem firstS12 (h : BitVec 128) (bs : List (BitVec 8)) (v : Value) (w : World) (hr0 : rowOf 0 bs v w) (hl : bs.length = 12) :
    Calls Try.prog 38 #[.agg (blk h), v] w fun e w' => e = .returned (.agg (blk (firstOf h bs))) ∧ Below w.heap.size w w' := by
  have b0 : Below w.heap.size w (((w.alloc (.cells (blk h) 33)).alloc (.cells (blk 0#128) 33)).alloc (.cells (blk 0#128) 33)) := by go_grown
  have hcp := run_copy12 (((w.alloc (.cells (blk h) 33)).alloc (.cells (blk 0#128) 33)).alloc (.cells (blk 0#128) 33)) (w.heap.size + 1 + 1) 33 bs v 3 hl (by simp [go_sem]) (stab_rowOf _ _ _ _ _ b0 hr0)
  obtain ⟨p, c, rfl⟩ := hr0.slice
  have hs := set15 bs
  rw [firstOf_12 h bs hl]
  rw [hl] at hcp ⊢
  clear hr0 hl b0
  go_enter Try.func38, Try.ntmps38
  go_wp2
  refine bodyPost_ret (retB (x := firstB bs) (t := 33) (fr := (0, 0)) rfl rfl (by simp [go_sem])) rfl ⟨rfl, ?_⟩
  go_grown

set_option maxRecDepth 100000 in
set_option maxHeartbeats 2000000 in
theorem firstSno (h : BitVec 128) (bs : List (BitVec 8)) (v : Value) (w : World) (hr0 : rowOf 0 bs v w) (hl : bs.length ≠ 12) (hlen : bs.length ≤ 2147483647) :
    Calls Try.prog 38 #[.agg (blk h), v] w fun e w' => e = .returned (.agg (blk (firstOf h bs))) ∧ Below w.heap.size w w' := by
  have hfin := firstOf_no h bs hl
  have p0 : objAt ((w.alloc (.cells (blk h) 33)).alloc (.cells (blk 0#128) 33)) w.heap.size = some (.cells (blk h) 33 (0, 0)) := by simp [go_sem]
  have p1 : objAt ((w.alloc (.cells (blk h) 33)).alloc (.cells (blk 0#128) 33)) (w.heap.size + 1) = some (.cells (blk 0#128) 33 (0, 0)) := by simp [go_sem]
  have hB0 : Below w.heap.size w ((w.alloc (.cells (blk h) 33)).alloc (.cells (blk 0#128) 33)) := by go_grown
  have hr := stab_rowOf _ _ _ _ _ hB0 hr0
  obtain ⟨p, c, rfl⟩ := hr0.slice
  have hl' : ¬ ((bs.length : Int) = 12) := by omega
  clear hr0 hl
  go_enter Try.func38, Try.ntmps38
  go_wp2
  clear hl'
  generalize (w.alloc (.cells (blk h) 33)).alloc (.cells (blk 0#128) 33) = W0 at p0 p1 hB0 hr ⊢
  refine wp_region_relw (l := [_, _, _, _, _, _, _, _]) (last := _) (fun w' => Hid (Below W0.heap.size W0 w'))
    [isv (.agg (blk h)), isv (.slice p bs.length c), ownB W0.heap.size (List.replicate 8 0#8), isv (.slice p bs.length c), ownB W0.heap.size (be64 (bits8 bs.length)), ownB W0.heap.size (List.replicate 8 0#8 ++ be64 (bits8 bs.length)), rowsOf 0 [bs, bytesOf (put8 0#128 8 (bits8 bs.length) 8)], isv (.agg (blk (firstOf h bs)))]
    (by kernel_rfl) (by kernel_rfl) (Lib.hid ((Below.refl _ _).drew)) (fun _ _ hb hS => held0 hb hS) ?rstab ?rops ?rlast
  case rstab => exact stabs_cons (stab_isv _) (stabs_cons (stab_isv _) (stabs_cons (stab_ownB _ _) (stabs_cons (stab_isv _) (stabs_cons (stab_ownB _ _) (stabs_cons (stab_ownB _ _) (stabs_cons (stab_rowsOf _ _) (stabs_cons (stab_isv _) stabs_nil)))))))
  case rops =>
    refine ⟨?_, ?_, ?_, ?_, ?_, ?_, ?_, ?_, trivial⟩
    · intro u w' hS hd
      have p0' := oa_below p0 hS.out (oa_lt p0)
      refine .inl (opV_val (v := .agg (blk h)) (by rfl) ?_ rfl)
      simp only [frameOf, Act.put, List.setIfInBounds_toArray, List.set_cons_zero, List.set_cons_succ]
      go_simp
    · intro u w' hS hd
      refine .inl (opV_val (v := .slice p bs.length c) (by rfl) ?_ rfl)
      simp only [frameOf, Act.put, List.setIfInBounds_toArray, List.set_cons_zero, List.set_cons_succ]
      go_simp
    · intro u w' hS hd
      have hmk := run_make8 w'
      refine .inl (opV_make (v := .slice (some ⟨w'.heap.size, 0, none⟩) 8 8) (w' := w'.alloc (.cells (madeCells (Value.int .u8 0).cells 8) 5)) (by rfl) ?_ ((Below.refl _ _).alloc (Nat.le_refl _) _) (own_made8 hS.out.size))
      simp only [frameOf, Act.put, List.setIfInBounds_toArray, List.set_cons_zero, List.set_cons_succ]
      go_simp
    · intro u w' hS hd
      refine .inl (opV_val (v := .slice p bs.length c) (by rfl) ?_ rfl)
      simp only [frameOf, Act.put, List.setIfInBounds_toArray, List.set_cons_zero, List.set_cons_succ]
      go_simp
    · intro u w' hS hd
      have d3 : u 3 = .slice p bs.length c := hd ⟨3, .data⟩ (by simp) rfl
      refine .inl (opV_call (f := 51) (args := #[.slice p bs.length c]) (by rfl) ?_ ((long_any bs (.slice p bs.length c) w' (stab_rowOf _ _ _ _ _ hS.out hr) hlen).mono fun e w2 ⟨v', he, hb, ho⟩ => ⟨v', he, hb, ho.mono hS.out.size⟩))
      simp only [frameOf, Act.put, List.setIfInBounds_toArray, List.set_cons_zero, List.set_cons_succ]
      go_simp
    · intro u w' hS hd
      have d2 : (ownB W0.heap.size (List.replicate 8 0#8)) (u 2) w' := hd ⟨2, .data⟩ (by simp) rfl
      have d4 : (ownB W0.heap.size (be64 (bits8 bs.length))) (u 4) w' := hd ⟨4, .data⟩ (by simp) rfl
      obtain ⟨v5, W5, hrun5, ho5, hb5, hk5, _⟩ := run_app W0.heap.size (List.replicate 8 0#8) (be64 (bits8 bs.length)) (u 2) (u 4) 35 35 w' d2 (src_row d4.rowOf) hS.out.size (by simp [be64])
      refine .inr ⟨[0, 1, 2, 3, 4], (by rfl), by kernel_rfl, v5, W5, ?_, (Lib.hid (hS.out.trans hb5)), ?_, ho5⟩
      · simp only [frameOf, Act.put, List.setIfInBounds_toArray, List.set_cons_zero, List.set_cons_succ]
        refine run_exec_append _ _ _ _ rfl _ _ ?_ ?_ hrun5
        all_goals go_simp
      · exact free_cons ((fun h => h)) (free_cons ((fun h => h)) (free_cons (fun h => hk5 _ _ (Nat.le_refl _) h) (free_cons ((fun h => h)) (free_cons (fun h => hk5 _ _ (by simp [be64]) h) free_nil))))
    · intro u w' hS hd
      have d1 : u 1 = .slice p bs.length c := hd ⟨1, .data⟩ (by simp) rfl
      have d5 : (ownB W0.heap.size (List.replicate 8 0#8 ++ be64 (bits8 bs.length))) (u 5) w' := hd ⟨5, .data⟩ (by simp) rfl
      have r5 := d5.rowOf
      obtain ⟨p5, n5, c5, e5⟩ := rowOf_slice r5
      rw [e5, ← bytes_len8] at r5
      refine .inl (opV_make (v := .slice (some ⟨w'.heap.size, 0, none⟩) 2 2) (w' := w'.alloc (.cells #[.slice p bs.length c, .slice p5 n5 c5] 35)) (by rfl) ?_ ((Below.refl _ _).alloc (Nat.le_refl _) _) (rows_new2 (stab_rowOf _ _ _ _ _ hS.out hr) (r5.mono (Nat.zero_le _)) rfl))
      simp only [frameOf, Act.put, List.setIfInBounds_toArray, List.set_cons_zero, List.set_cons_succ]
      go_simp
    · intro u w' hS hd
      have d0 : u 0 = .agg (blk h) := hd ⟨0, .data⟩ (by simp) rfl
      have d6 : (rowsOf 0 [bs, bytesOf (put8 0#128 8 (bits8 bs.length) 8)]) (u 6) w' := hd ⟨6, .data⟩ (by simp) rfl
      refine .inl (opV_callB (f := 34) (args := #[.agg (blk h), u 6]) (by rfl) ?_ (hfin.symm ▸ shash_any h [bs, bytesOf (put8 0#128 8 (bits8 bs.length) 8)] (u 6) w' d6 (by simp [bytesOf]; omega)))
      simp only [frameOf, Act.put, List.setIfInBounds_toArray, List.set_cons_zero, List.set_cons_succ]
      go_simp
  case rlast =>
    intro u w1 hS hV
    clear hfin
    have d7 : u 7 = .agg (blk (firstOf h bs)) := hV 7 (by decide)
    have p1' := oa_below p1 hS.out (oa_lt p1)
    simp only [frameOf, Act.put, List.setIfInBounds_toArray, List.set_cons_zero, List.set_cons_succ]
    simp only [wpOp, List.length_cons, List.length_nil, Nat.zero_add, Nat.reduceAdd]
    go_simp
    refine .inl ?_
    go_wp2
    refine bodyPost_ret (retB (x := firstOf h bs) (t := 33) (fr := (0, 0)) rfl rfl (objAt_setRow_same p1' _)) rfl ⟨rfl, ?_⟩
    exact bel_setRow (hB0.trans (hS.out.mono hB0.size)) (by omega) _

theorem firstS_any (h : BitVec 128) (bs : List (BitVec 8)) (v : Value) (w : World) (hr : rowOf 0 bs v w) (hlen : bs.length ≤ 2147483647) :
    Calls Try.prog 38 #[.agg (blk h), v] w fun e w' => e = .returned (.agg (blk (firstOf h bs))) ∧ Below w.heap.size w w' := by
  by_cases hl : bs.length = 12
  · exact firstS12 h bs v w hr hl
  · exact firstSno h bs v w hr hl hlen

set_option maxRecDepth 100000 in
set_option maxHeartbeats 2000000 in
theorem tagS_any (h m : BitVec 128) (cs ds : List (BitVec 8)) (vc vd : Value) (w : World) (hc0 : rowOf 0 cs vc w) (hd0 : rowOf 0 ds vd w) (hcl : cs.length ≤ 2147483647) (hdl : ds.length ≤ 2147483647) :
    Calls Try.prog 40 #[.agg (blk h), .agg (blk m), vc, vd] w fun e w' => e = .returned (.agg (blk (tagOf h m cs ds))) ∧ Below w.heap.size w w' := by
  have p0 : objAt (((w.alloc (.cells (blk h) 33)).alloc (.cells (blk m) 33)).alloc (.cells (blk 0#128) 33)) w.heap.size = some (.cells (blk h) 33 (0, 0)) := by simp [go_sem]
  have p1 : objAt (((w.alloc (.cells (blk h) 33)).alloc (.cells (blk m) 33)).alloc (.cells (blk 0#128) 33)) (w.heap.size + 1) = some (.cells (blk m) 33 (0, 0)) := by simp [go_sem]
  have p2 : objAt (((w.alloc (.cells (blk h) 33)).alloc (.cells (blk m) 33)).alloc (.cells (blk 0#128) 33)) (w.heap.size + 1 + 1) = some (.cells (blk 0#128) 33 (0, 0)) := by simp [go_sem]
  have hB0 : Below w.heap.size w (((w.alloc (.cells (blk h) 33)).alloc (.cells (blk m) 33)).alloc (.cells (blk 0#128) 33)) := by go_grown
  have hc := stab_rowOf _ _ _ _ _ hB0 hc0
  have hrd := stab_rowOf _ _ _ _ _ hB0 hd0
  obtain ⟨pc, cc, rfl⟩ := hc0.slice
  obtain ⟨pd, cd, rfl⟩ := hd0.slice
  clear hc0 hd0
  go_enter Try.func40, Try.ntmps40
  go_wp2
  generalize ((w.alloc (.cells (blk h) 33)).alloc (.cells (blk m) 33)).alloc (.cells (blk 0#128) 33) = W0 at p0 p1 p2 hB0 hc hrd ⊢
  refine wp_region_relw (l := [_, _, _, _, _, _, _, _, _, _, _, _]) (last := _) (fun w' => Hid (Below W0.heap.size W0 w'))
    [isv (.agg (blk h)), isv (.slice pd ds.length cd), isv (.slice pc cs.length cc), isv (.slice pd ds.length cd), ownB W0.heap.size (be64 (bits8 ds.length)), isv (.slice pc cs.length cc), ownB W0.heap.size (be64 (bits8 cs.length)), ownB W0.heap.size (be64 (bits8 ds.length) ++ be64 (bits8 cs.length)), rowsOf 0 [ds, cs, bytesOf (lenB (bits8 ds.length) (bits8 cs.length))], isv (.agg (blk (hashOf [ds, cs, bytesOf (lenB (bits8 ds.length) (bits8 cs.length))] h))), isv (.agg (blk m)), isv (.agg (blk (tagOf h m cs ds)))]
    (by kernel_rfl) (by kernel_rfl) (Lib.hid ((Below.refl _ _).drew)) (fun _ _ hb hS => held0 hb hS) ?rstab ?rops ?rlast
  case rstab => exact stabs_cons (stab_isv _) (stabs_cons (stab_isv _) (stabs_cons (stab_isv _) (stabs_cons (stab_isv _) (stabs_cons (stab_ownB _ _) (stabs_cons (stab_isv _) (stabs_cons (stab_ownB _ _) (stabs_cons (stab_ownB _ _) (stabs_cons (stab_rowsOf _ _) (stabs_cons (stab_isv _) (stabs_cons (stab_isv _) (stabs_cons (stab_isv _) stabs_nil)))))))))))
  case rops =>
    refine ⟨?_, ?_, ?_, ?_, ?_, ?_, ?_, ?_, ?_, ?_, ?_, ?_, trivial⟩
    · intro u w' hS hd
      have p0' := oa_below p0 hS.out (oa_lt p0)
      refine .inl (opV_val (v := .agg (blk h)) (by rfl) ?_ rfl)
      simp only [frameOf, Act.put, List.setIfInBounds_toArray, List.set_cons_zero, List.set_cons_succ]
      go_simp
    · intro u w' hS hd
      refine .inl (opV_val (v := .slice pd ds.length cd) (by rfl) ?_ rfl)
      simp only [frameOf, Act.put, List.setIfInBounds_toArray, List.set_cons_zero, List.set_cons_succ]
      go_simp
    · intro u w' hS hd
      refine .inl (opV_val (v := .slice pc cs.length cc) (by rfl) ?_ rfl)
      simp only [frameOf, Act.put, List.setIfInBounds_toArray, List.set_cons_zero, List.set_cons_succ]
      go_simp
    · intro u w' hS hd
      refine .inl (opV_val (v := .slice pd ds.length cd) (by rfl) ?_ rfl)
      simp only [frameOf, Act.put, List.setIfInBounds_toArray, List.set_cons_zero, List.set_cons_succ]
      go_simp
    · intro u w' hS hd
      have d3 : u 3 = .slice pd ds.length cd := hd ⟨3, .data⟩ (by simp) rfl
      refine .inl (opV_call (f := 51) (args := #[.slice pd ds.length cd]) (by rfl) ?_ ((long_any ds (.slice pd ds.length cd) w' (stab_rowOf _ _ _ _ _ hS.out hrd) hdl).mono fun e w2 ⟨v', he, hb, ho⟩ => ⟨v', he, hb, ho.mono hS.out.size⟩))
      simp only [frameOf, Act.put, List.setIfInBounds_toArray, List.set_cons_zero, List.set_cons_succ]
      go_simp
    · intro u w' hS hd
      refine .inl (opV_val (v := .slice pc cs.length cc) (by rfl) ?_ rfl)
      simp only [frameOf, Act.put, List.setIfInBounds_toArray, List.set_cons_zero, List.set_cons_succ]
      go_simp
    · intro u w' hS hd
      have d5 : u 5 = .slice pc cs.length cc := hd ⟨5, .data⟩ (by simp) rfl
      refine .inl (opV_call (f := 51) (args := #[.slice pc cs.length cc]) (by rfl) ?_ ((long_any cs (.slice pc cs.length cc) w' (stab_rowOf _ _ _ _ _ hS.out hc) hcl).mono fun e w2 ⟨v', he, hb, ho⟩ => ⟨v', he, hb, ho.mono hS.out.size⟩))
      simp only [frameOf, Act.put, List.setIfInBounds_toArray, List.set_cons_zero, List.set_cons_succ]
      go_simp
    · intro u w' hS hd
      have d4 : (ownB W0.heap.size (be64 (bits8 ds.length))) (u 4) w' := hd ⟨4, .data⟩ (by simp) rfl
      have d6 : (ownB W0.heap.size (be64 (bits8 cs.length))) (u 6) w' := hd ⟨6, .data⟩ (by simp) rfl
      obtain ⟨v7, W7, hrun7, ho7, hb7, hk7, _⟩ := run_app W0.heap.size (be64 (bits8 ds.length)) (be64 (bits8 cs.length)) (u 4) (u 6) 35 35 w' d4 (src_row d6.rowOf) hS.out.size (by simp [be64])
      refine .inr ⟨[0, 1, 2, 3, 4, 5, 6, 10], (by rfl), by kernel_rfl, v7, W7, ?_, (Lib.hid (hS.out.trans hb7)), ?_, ho7⟩
      · simp only [frameOf, Act.put, List.setIfInBounds_toArray, List.set_cons_zero, List.set_cons_succ]
        refine run_exec_append _ _ _ _ rfl _ _ ?_ ?_ hrun7
        all_goals go_simp
      · exact free_cons ((fun h => h)) (free_cons ((fun h => h)) (free_cons ((fun h => h)) (free_cons ((fun h => h)) (free_cons (fun h => hk7 _ _ (Nat.le_refl _) h) (free_cons ((fun h => h)) (free_cons (fun h => hk7 _ _ (by simp [be64]) h) (free_cons ((fun h => h)) free_nil)))))))
    · intro u w' hS hd
      have d1 : u 1 = .slice pd ds.length cd := hd ⟨1, .data⟩ (by simp) rfl
      have d2 : u 2 = .slice pc cs.length cc := hd ⟨2, .data⟩ (by simp) rfl
      have d7 : (ownB W0.heap.size (be64 (bits8 ds.length) ++ be64 (bits8 cs.length))) (u 7) w' := hd ⟨7, .data⟩ (by simp) rfl
      have r7 := d7.rowOf
      obtain ⟨p7, n7, c7, e7⟩ := rowOf_slice r7
      rw [e7, ← bytes_lenB] at r7
      refine .inl (opV_make (v := .slice (some ⟨w'.heap.size, 0, none⟩) 3 3) (w' := w'.alloc (.cells #[.slice pd ds.length cd, .slice pc cs.length cc, .slice p7 n7 c7] 35)) (by rfl) ?_ ((Below.refl _ _).alloc (Nat.le_refl _) _) (rows_new3 (stab_rowOf _ _ _ _ _ hS.out hrd) (stab_rowOf _ _ _ _ _ hS.out hc) (r7.mono (Nat.zero_le _)) rfl))
      simp only [frameOf, Act.put, List.setIfInBounds_toArray, List.set_cons_zero, List.set_cons_succ]
      go_simp
    · intro u w' hS hd
      have d0 : u 0 = .agg (blk h) := hd ⟨0, .data⟩ (by simp) rfl
      have d8 : (rowsOf 0 [ds, cs, bytesOf (lenB (bits8 ds.length) (bits8 cs.length))]) (u 8) w' := hd ⟨8, .data⟩ (by simp) rfl
      refine .inl (opV_callB (f := 34) (args := #[.agg (blk h), u 8]) (by rfl) ?_ (shash_any h [ds, cs, bytesOf (lenB (bits8 ds.length) (bits8 cs.length))] (u 8) w' d8 (by simp [bytesOf]; omega)))
      simp only [frameOf, Act.put, List.setIfInBounds_toArray, List.set_cons_zero, List.set_cons_succ]
      go_simp
    · intro u w' hS hd
      have p1' := oa_below p1 hS.out (oa_lt p1)
      refine .inl (opV_val (v := .agg (blk m)) (by rfl) ?_ rfl)
      simp only [frameOf, Act.put, List.setIfInBounds_toArray, List.set_cons_zero, List.set_cons_succ]
      go_simp
    · intro u w' hS hd
      have d9 : u 9 = .agg (blk (hashOf [ds, cs, bytesOf (lenB (bits8 ds.length) (bits8 cs.length))] h)) := hd ⟨9, .data⟩ (by simp) rfl
      have d10 : u 10 = .agg (blk m) := hd ⟨10, .data⟩ (by simp) rfl
      refine .inl (opV_callB (f := 44) (args := #[.agg (blk (hashOf [ds, cs, bytesOf (lenB (bits8 ds.length) (bits8 cs.length))] h)), .agg (blk m)]) (by rfl) ?_ (sxor_any (hashOf [ds, cs, bytesOf (lenB (bits8 ds.length) (bits8 cs.length))] h) m w'))
      simp only [frameOf, Act.put, List.setIfInBounds_toArray, List.set_cons_zero, List.set_cons_succ]
      go_simp
  case rlast =>
    intro u w1 hS hV
    have d11 : u 11 = .agg (blk (tagOf h m cs ds)) := hV 11 (by decide)
    have p2' := oa_below p2 hS.out (oa_lt p2)
    simp only [frameOf, Act.put, List.setIfInBounds_toArray, List.set_cons_zero, List.set_cons_succ]
    simp only [wpOp, List.length_cons, List.length_nil, Nat.zero_add, Nat.reduceAdd]
    go_simp
    refine .inl ?_
    go_wp2
    refine bodyPost_ret (retB (x := tagOf h m cs ds) (t := 33) (fr := (0, 0)) rfl rfl (objAt_setRow_same p2' _)) rfl ⟨rfl, ?_⟩
    exact bel_setRow (hB0.trans (hS.out.mono hB0.size)) (by omega) _
end Go.Proofs.Ytdaebcaokoajjaa
