/- A stream in counter mode is made. -/
import Derived.Test.YtfcdldcekdbckaeDoorStruct
import Derived.Test.YtfcdldcekdbckaeDoorCtr
import Derived.Test.YtfcdldcekdbckaeDoorCtr0
namespace Go.Proofs.YtfcdldcekdbckaeDoor
open Go Go.RowKit Gf

@[go_sem] theorem shl64_8 (x : BitVec 64) : IntKind.u64.wrap (n64 x * 256) = n64 (wshl x 8) := shl64 x 8
@[go_sem] theorem shl64_16 (x : BitVec 64) : IntKind.u64.wrap (n64 x * 65536) = n64 (wshl x 16) := shl64 x 16
@[go_sem] theorem shl64_24 (x : BitVec 64) : IntKind.u64.wrap (n64 x * 16777216) = n64 (wshl x 24) := shl64 x 24
@[go_sem] theorem shl64_40 (x : BitVec 64) : IntKind.u64.wrap (n64 x * 1099511627776) = n64 (wshl x 40) := shl64 x 40
@[go_sem] theorem shl64_48 (x : BitVec 64) : IntKind.u64.wrap (n64 x * 281474976710656) = n64 (wshl x 48) := shl64 x 48
@[go_sem] theorem shl64_56 (x : BitVec 64) : IntKind.u64.wrap (n64 x * 72057594037927936) = n64 (wshl x 56) := shl64 x 56
/-- Eight bytes as a word. -/
def rd64 (x : BitVec 128) (o : Nat) : BitVec 64 :=
  wor (wor (wor (wor (wor (wor (wor (wext 64 (byte x (o + 7))) (wshl (wext 64 (byte x (o + 6))) 8)) (wshl (wext 64 (byte x (o + 5))) 16)) (wshl (wext 64 (byte x (o + 4))) 24)) (wshl (wext 64 (byte x (o + 3))) 32)) (wshl (wext 64 (byte x (o + 2))) 40)) (wshl (wext 64 (byte x (o + 1))) 48)) (wshl (wext 64 (byte x o)) 56)
/-- The counter that a block begins with. -/
def ivOf (x : BitVec 128) : BitVec 128 := ofHL (rd64 x 0) (rd64 x 8)
set_option maxHeartbeats 2000000 in
theorem abe64_any (b p o n c : Nat) (x : BitVec 128) (w : World) (hn : 8 ≤ n) (hn2 : (n : Int) ≤ 9223372036854775807) (h : ∀ i, i < 8 → w.cell? ⟨b, p + i, none⟩ = some (.int .u8 (n8 (byte x (o + i))))) :
    Calls Tryd.prog 39 #[.slice (some ⟨b, p, none⟩) n c] w fun e w' => e = .returned (.int .u64 (n64 (rd64 x o))) ∧ ∃ m, w' = w.drewN m := by
  have k0 : (0 : Int) < (n : Int) := by omega
  have k1 : (1 : Int) < (n : Int) := by omega
  have k2 : (2 : Int) < (n : Int) := by omega
  have k3 : (3 : Int) < (n : Int) := by omega
  have k4 : (4 : Int) < (n : Int) := by omega
  have k5 : (5 : Int) < (n : Int) := by omega
  have k6 : (6 : Int) < (n : Int) := by omega
  have k7 : (7 : Int) < (n : Int) := by omega
  have h0 := h 0 (by decide)
  rw [Nat.add_zero, Nat.add_zero] at h0
  have h1 := h 1 (by decide)
  have h2 := h 2 (by decide)
  have h3 := h 3 (by decide)
  have h4 := h 4 (by decide)
  have h5 := h 5 (by decide)
  have h6 := h 6 (by decide)
  have h7 := h 7 (by decide)
  clear h
  go_enter Tryd.func39, Tryd.ntmps39
  go_wp2
  go_quiet (fail)
  go_wp2
  go_ret
  exact ⟨rfl, _, rfl⟩

/-- A stream's block: the cipher's words, the counter's halves, the place. -/
def ctrC (r : Nat) (K D : Nat → BitVec 32) (lo hi o : BitVec 64) : Array Value := kbl r K D ++ #[.int .u64 (n64 lo), .int .u64 (n64 hi), .int .u64 (n64 o)]
@[go_sem] theorem ctrC_size (r : Nat) (K D : Nat → BitVec 32) (lo hi o : BitVec 64) : (ctrC r K D lo hi o).size = 124 := by simp [ctrC, kbl_size]
theorem ctrC_one (r : Nat) (K D : Nat → BitVec 32) (lo hi o : BitVec 64) : ∀ v ∈ (ctrC r K D lo hi o).toList, v.oneCell' = true := fun v hv => by
  unfold ctrC at hv
  rw [Array.toList_append, List.mem_append] at hv
  rcases hv with hv | hv
  · exact kbl_one r K D v hv
  · simp only [List.mem_cons, List.not_mem_nil, or_false] at hv
    rcases hv with rfl | rfl | rfl <;> rfl
theorem wr_ctrC (P : Program) (w : World) (g r : Nat) (K D : Nat → BitVec 32) (lo hi o : BitVec 64) : (storeCells ⟨g, 0, none⟩ (ctrC r K D lo hi o).toList 0).run P w = wrOfG w g (ctrC r K D lo hi o) (altWrG P g (ctrC r K D lo hi o) w) (objAt w g) := wrG P w g _ (ctrC_one _ _ _ _ _ _)
attribute [go_sem ↓] wr_ctrC
theorem rd124 (P : Program) (w : World) (g : Nat) : (loadCellsFrom ⟨g, 0, none⟩ 0 124 #[]).run P w = rdOfN 124 w (altRdN P g 124 w) (objAt w g) := rdN P w g 124
attribute [go_sem ↓] rd124
theorem zero_ctrC : Tryd.zeroCells71 = ctrC 0 (fun _ => 0#32) (fun _ => 0#32) 0#64 0#64 0#64 := by kernel_rfl
attribute [go_sem] zero_ctrC
theorem built_ctr (r : Nat) (K D : Nat → BitVec 32) (lo hi : BitVec 64) (w : World) :
    (Instr.build 71 #[(0, .agg (kbl r K D)), (1, .int .u64 (n64 lo)), (2, .int .u64 (n64 hi)), (3, .int .u64 0)]).run Tryd.prog w = .ok (.agg (ctrC r K D lo hi 0#64)) w :=
  run_build w _ _ _ (by kernel_rfl)

set_option maxRecDepth 100000 in
set_option maxHeartbeats 4000000 in
theorem newCTR_any (B r V vo vc : Nat) (K D : Nat → BitVec 32) (tB : TypeId) (x : BitVec 128) (w : World) (hB : objAt w B = some (.cells (kbl r K D) tB (0, 0))) (hV : RdL w V vo (bytesOf x)) (hvc : 16 ≤ vc) :
    Calls Tryd.prog 28 #[.pointer (some ⟨B, 0, none⟩), .slice (some ⟨V, vo, none⟩) 16 vc] w fun e w' => e = .returned (.agg (ctrC r K D (loOf (ivOf x)) (hiOf (ivOf x)) 0#64)) ∧ Below w.heap.size w w' := by
  have hVl : V < w.heap.size := block_lt_of_cell (hV 0 _ (List.getElem?_eq_getElem (by rw [bytesOf_length]; decide)))
  have hBl := oa_lt hB
  have hvc1 : (16 : Int) ≤ vc := by omega
  have hvc8 : ¬ vc = 8 := by omega
  have hvc9 : (8 : Int) ≤ vc := by omega
  obtain ⟨N, hN⟩ : ∃ N, N = w.heap.size := ⟨_, rfl⟩
  have hb0 : Below w.heap.size w (w.alloc (.cells (ctrC 0 (fun _ => 0#32) (fun _ => 0#32) 0#64 0#64 0#64) 71)) := (Below.refl _ _).alloc (Nat.le_refl _) _
  have hP : objAt (w.alloc (.cells (ctrC 0 (fun _ => 0#32) (fun _ => 0#32) 0#64 0#64 0#64) 71)) N = some (.cells (ctrC 0 (fun _ => 0#32) (fun _ => 0#32) 0#64 0#64 0#64) 71 (0, 0)) := by rw [hN]; exact objAt_alloc_at _ _ _ rfl
  have hB1 := oa_below hB hb0 hBl
  have hV1 : ∀ i, i < 16 → (w.alloc (.cells (ctrC 0 (fun _ => 0#32) (fun _ => 0#32) 0#64 0#64 0#64) 71)).cell? ⟨V, vo + i, none⟩ = some (.int .u8 (n8 (byte x i))) := fun i hi => (cell_same (hb0.block V hVl) _).trans (hV i _ (bytesOf_get x i hi))
  have hBN : B ≠ N := by omega
  have e0 : w.heap.size = N := hN.symm
  rw [← hN] at hb0
  have G0 := Lib.hid (fun m => abe64_any V vo 0 8 vc x ((w.alloc (.cells (ctrC 0 (fun _ => 0#32) (fun _ => 0#32) 0#64 0#64 0#64) 71)).drewN m) (by decide) (by decide) (fun i hi => by rw [Nat.zero_add]; exact hV1 i (by omega)))
  have G8 := Lib.hid (fun m => abe64_any V (vo + 8) 8 8 (vc - 8) x ((w.alloc (.cells (ctrC 0 (fun _ => 0#32) (fun _ => 0#32) 0#64 0#64 0#64) 71)).drewN m) (by decide) (by decide) (fun i hi => by rw [Nat.add_assoc]; exact hV1 (8 + i) (by omega)))
  have HB1 := Lib.hid hB1
  have HP := Lib.hid hP
  have HB0 := Lib.hid hb0
  clear hB hV hB1 hP hb0 hV1 hN
  go_enter Tryd.func28, Tryd.ntmps28
  go_wp2_with (fail)
  have hbu := fun w => built_ctr r K D (loOf (ivOf x)) (hiOf (ivOf x)) w
  have HBU := Lib.hid hbu
  clear hbu
  generalize w.alloc (.cells (ctrC 0 (fun _ => 0#32) (fun _ => 0#32) 0#64 0#64 0#64) 71) = w1 at *
  refine wp_region_chain (l := [_, _, _, _, _, _, _, _, _, _, _]) (fun w' => objAt w' B = some (.cells (kbl r K D) tB (0, 0))) (fun w' => ∃ m, w' = w1.drewN m) (by kernel_rfl) (by kernel_rfl) ⟨1, rfl⟩ (fun w2 b2 => (by obtain ⟨m2, rfl⟩ := b2; exact oa_drewN HB1.out m2)) ?_
  iterate 5 (refine chain_val (v := ?_) (by rfl) ?_ ?_; rotate_left; (focus (intro w2 b2; (try obtain ⟨m2, rfl⟩ := b2); go_simp; (try with_reducible rfl); done)); simp only [Act.put, List.setIfInBounds_toArray, List.set_cons_zero, List.set_cons_succ])
  refine chain_call (fun w' => ∃ m, w' = w1.drewN m) (v := .int .u64 (n64 (rd64 x 8))) (f := 39) (args := #[.slice (some ⟨V, vo + 8, none⟩) 8 (vc - 8)]) rfl (by rfl) (fun w2 b2 => (by obtain ⟨m2, rfl⟩ := b2; exact oa_drewN HB1.out m2)) (fun w2 b2 => (by go_simp; done))
    (fun w2 b2 => (by obtain ⟨m2, rfl⟩ := b2; exact (G8.out m2).mono fun _ _ ⟨he, m3, hm⟩ => ⟨he, m2 + m3, by rw [hm, World.drewN_drewN]⟩)) ?_
  simp only [Act.put, List.setIfInBounds_toArray, List.set_cons_zero, List.set_cons_succ]
  iterate 2 (refine chain_val (v := ?_) (by rfl) ?_ ?_; rotate_left; (focus (intro w2 b2; (try obtain ⟨m2, rfl⟩ := b2); go_simp; (try with_reducible rfl); done)); simp only [Act.put, List.setIfInBounds_toArray, List.set_cons_zero, List.set_cons_succ])
  refine chain_call (fun w' => ∃ m, w' = w1.drewN m) (v := .int .u64 (n64 (rd64 x 0))) (f := 39) (args := #[.slice (some ⟨V, vo, none⟩) 8 vc]) rfl (by rfl) (fun w2 b2 => (by obtain ⟨m2, rfl⟩ := b2; exact oa_drewN HB1.out m2)) (fun w2 b2 => (by go_simp; done))
    (fun w2 b2 => (by obtain ⟨m2, rfl⟩ := b2; exact (G0.out m2).mono fun _ _ ⟨he, m3, hm⟩ => ⟨he, m2 + m3, by rw [hm, World.drewN_drewN]⟩)) ?_
  simp only [Act.put, List.setIfInBounds_toArray, List.set_cons_zero, List.set_cons_succ]
  have hl8 : rd64 x 8 = loOf (ivOf x) := (hl_lo _ _).symm
  have hl0 : rd64 x 0 = hiOf (ivOf x) := (hl_hi _ _).symm
  rw [hl8, hl0]
  clear hl8 hl0
  refine chain_val (v := .agg (ctrC r K D (loOf (ivOf x)) (hiOf (ivOf x)) 0#64)) (by rfl) (fun w2 _ => exec_build _ _ rfl _ (by simp [Act.eval]) (HBU.out w2)) ?_
  simp only [Act.put, List.setIfInBounds_toArray, List.set_cons_zero, List.set_cons_succ]
  refine chain_store (fun w' => ∃ m, w' = (w1.setRow N (ctrC r K D (loOf (ivOf x)) (hiOf (ivOf x)) 0#64)).drewN m) (fun w' => w'.setRow N (ctrC r K D (loOf (ivOf x)) (hiOf (ivOf x)) 0#64)) rfl (by rfl) (fun w2 b2 => (by obtain ⟨m2, rfl⟩ := b2; exact oa_drewN (oa_row HB1.out hBN _) m2))
    (fun w2 b2 => (by obtain ⟨m2, rfl⟩ := b2; have hq := HP.out; go_simp; done)) (fun w2 b2 => (by obtain ⟨m2, rfl⟩ := b2; exact ⟨m2, rfl⟩)) ?_
  simp only [Act.put]
  refine chain_nil fun w2 b2 => ?_
  obtain ⟨m2, rfl⟩ := b2
  have HO := Lib.hid (objAt_setRow_same HP.out (ctrC r K D (loOf (ivOf x)) (hiOf (ivOf x)) 0#64))
  go_wp2
  refine bodyPost_ret (results_cell_row rfl _ _ N _ (ctrC r K D (loOf (ivOf x)) (hiOf (ivOf x)) 0#64) _ _ rfl (oa_drewN HO.out m2) Tryd.underlying71 rfl (by rw [ctrC_size]; kernel_rfl)) rfl ⟨rfl, (by rw [e0]; exact bel_drewN (bel_setRow HB0.out (Nat.le_refl _) _) m2)⟩

/-- A pointer to a new stream. -/
def StrP (r : Nat) (K D : Nat → BitVec 32) (c : BitVec 128) (w : World) (e : Ending) (w' : World) : Prop :=
  ∃ C, e = .returned (.pointer (some ⟨C, 0, none⟩)) ∧ w.heap.size ≤ C ∧ objAt w' C = some (.cells (ctrC r K D (loOf c) (hiOf c) 0#64) 71 (0, 0)) ∧ Below w.heap.size w w'
set_option maxRecDepth 100000 in
set_option maxHeartbeats 4000000 in
theorem nCTR_any (B r V vo vc : Nat) (K D : Nat → BitVec 32) (tB : TypeId) (x : BitVec 128) (w : World) (hB : objAt w B = some (.cells (kbl r K D) tB (0, 0))) (hV : RdL w V vo (bytesOf x)) (hvc : 16 ≤ vc) :
    Calls Tryd.prog 20 #[.pointer (some ⟨B, 0, none⟩), .slice (some ⟨V, vo, none⟩) 16 vc] w (StrP r K D (ivOf x) w) := by
  have g := newCTR_any B r V vo vc K D tB x w hB hV hvc
  clear hB hV
  go_enter Tryd.func20, Tryd.ntmps20
  go_wp2_with (go_at_call 28; (with_reducible refine g.mono ?_); rintro e w1 ⟨rfl, hb1⟩; have HB1 := Lib.hid hb1; clear hb1)
  go_ret
  exact ⟨w1.heap.size, rfl, HB1.out.size, objAt_alloc_at _ _ _ rfl, HB1.out.alloc HB1.out.size _⟩
end Go.Proofs.YtfcdldcekdbckaeDoor
