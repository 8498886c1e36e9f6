/- GCM's block is made out of a cipher. -/
import Derived.Test.YtfcdldcekdbckacDoorCtrGP
import Derived.Test.YtfcdldcekdbckacDoorChainT
namespace Go.Proofs.YtfcdldcekdbckacDoor
open Go Go.RowKit Gf

/-- GCM's block: the cipher's words, the sizes of nonces and tags. -/
def gcmC (r : Nat) (K D : Nat → BitVec 32) (ns ts : Int) : Array Value := kbl r K D ++ #[.int .i64 ns, .int .i64 ts]
@[go_sem] theorem gcmC_size (r : Nat) (K D : Nat → BitVec 32) (ns ts : Int) : (gcmC r K D ns ts).size = 123 := by simp [gcmC, kbl_size]
theorem gcmC_key (r : Nat) (K D : Nat → BitVec 32) (ns ts : Int) : KeyC (gcmC r K D ns ts) r K := by
  have e : ∀ i, i < 121 → (gcmC r K D ns ts)[i]? = (kbl r K D)[i]? := fun i hi => by
    unfold gcmC
    rw [Array.getElem?_append_left (by rw [kbl_size]; exact hi)]
  exact ⟨by rw [e _ (by decide)]; rfl, fun i hi => by rw [e _ (by omega)]; exact kbl_k _ _ _ _ hi⟩
theorem gcmC_ns (r : Nat) (K D : Nat → BitVec 32) (ns ts : Int) : (gcmC r K D ns ts)[121]? = some (.int .i64 ns) := by
  unfold gcmC
  rw [Array.getElem?_append_right (by rw [kbl_size]; decide), kbl_size]; rfl
theorem gcmC_ts (r : Nat) (K D : Nat → BitVec 32) (ns ts : Int) : (gcmC r K D ns ts)[122]? = some (.int .i64 ts) := by
  unfold gcmC
  rw [Array.getElem?_append_right (by rw [kbl_size]; decide), kbl_size]; rfl
theorem gcmC_set121 (r : Nat) (K D : Nat → BitVec 32) (ns ts n : Int) : (gcmC r K D ns ts).setIfInBounds 121 (.int .i64 n) = gcmC r K D n ts := by kernel_rfl
theorem gcmC_set122 (r : Nat) (K D : Nat → BitVec 32) (ns ts n : Int) : (gcmC r K D ns ts).setIfInBounds 122 (.int .i64 n) = gcmC r K D ns n := by kernel_rfl
theorem zero_gcm : Tryd.zeroCells56 = gcmC 0 (fun _ => 0#32) (fun _ => 0#32) 0 0 := by kernel_rfl
attribute [go_sem] zero_gcm
theorem put_gcm (r : Nat) (K D : Nat → BitVec 32) (ns ts : Int) : putV (gcmC 0 (fun _ => 0#32) (fun _ => 0#32) ns ts) 0 (kbl r K D).toList = gcmC r K D ns ts := by kernel_rfl

/-! ### A write into a block's first cells -/
def wrOfP (w : World) (g : Nat) (y : Array Value) (alt : Result Unit) : Option Obj → Result Unit
  | some (.cells cs _ (0, 0)) => if y.size ≤ cs.size then .ok () (w.setRow g (putV cs 0 y.toList)) else alt
  | _ => alt
def altWrP (P : Program) (g : Nat) (y : Array Value) (w : World) : Result Unit := (storeCells ⟨g, 0, none⟩ y.toList 0).run P w
@[go_sem] theorem wrOfP_mk (w : World) (g : Nat) (y : Array Value) (alt : Result Unit) (cs : Array Value) (t : TypeId) (h : y.size ≤ cs.size) : wrOfP w g y alt (some (.cells cs t (0, 0))) = .ok () (w.setRow g (putV cs 0 y.toList)) := by
  simp [wrOfP, h]
theorem wrP (P : Program) (w : World) (g : Nat) (y : Array Value) (hy : ∀ v ∈ y.toList, v.oneCell' = true) : (storeCells ⟨g, 0, none⟩ y.toList 0).run P w = wrOfP w g y (altWrP P g y w) (objAt w g) := by
  unfold wrOfP altWrP objAt
  split
  · rename_i cs t h
    by_cases hs : y.size ≤ cs.size
    · rw [if_pos hs]
      have := run_storeCells_at P g 0 t y.toList 0 cs w h (by simp [hs]) hy
      rw [this]
      congr 2
      have e := putV_eq y.toList cs 0 (by simp [hs])
      rw [← e]
    · rw [if_neg hs]
  · rfl
theorem wr_kbl (P : Program) (w : World) (g r : Nat) (K D : Nat → BitVec 32) : (storeCells ⟨g, 0, none⟩ (kbl r K D).toList 0).run P w = wrOfP w g (kbl r K D) (altWrP P g (kbl r K D) w) (objAt w g) := wrP P w g _ (kbl_one _ _ _)

theorem size_any (B : Nat) (w : World) : Calls Tryd.prog 25 #[.pointer (some ⟨B, 0, none⟩)] w fun e w' => e = .returned (.int .i64 16) ∧ w' = w := by
  go_enter Tryd.func25, Tryd.ntmps25
  go_wp2
  go_ret
  exact ⟨rfl, rfl⟩
theorem init_any (v : Value) (w : World) : Calls Tryd.prog 26 #[v] w fun e w' => e = .returned (.tuple #[]) ∧ w' = w := by
  go_enter Tryd.func26, Tryd.ntmps26
  go_wp2
  exact bodyPost_end (v := .tuple #[]) (by simp [results, Tryd.results26, go_sem]) rfl ⟨rfl, rfl⟩

set_option maxRecDepth 100000 in
set_option maxHeartbeats 200000 in
theorem newG_any (G B r : Nat) (K D : Nat → BitVec 32) (tG tB : TypeId) (ns ts : Int) (w : World) (hG : objAt w G = some (.cells (gcmC 0 (fun _ => 0#32) (fun _ => 0#32) 0 0) tG (0, 0))) (hB : objAt w B = some (.cells (kbl r K D) tB (0, 0)))
    (hn : 0 < ns) (ht1 : 12 ≤ ts) (ht2 : ts ≤ 16) :
    Calls Tryd.prog 20 #[.pointer (some ⟨G, 0, none⟩), .pointer (some ⟨B, 0, none⟩), .int .i64 ns, .int .i64 ts] w
      fun e w' => e = .returned (.tuple #[.pointer (some ⟨G, 0, none⟩), .nilIface]) ∧ objAt w' G = some (.cells (gcmC r K D ns ts) tG (0, 0)) ∧ Keeps G w w' := by
  have k1 : ¬ ts < 12 := by omega
  have k2 : ¬ 16 < ts := by omega
  have k3 : ¬ ns ≤ 0 := by omega
  have o1 := objAt_setRow_same hG (gcmC r K D 0 0)
  have o2 := objAt_set o1 121 (.int .i64 ns)
  rw [gcmC_set121] at o2
  have o3 := objAt_set o2 122 (.int .i64 ts)
  rw [gcmC_set122] at o3
  have hk := (((Keeps.refl G w).row (gcmC r K D 0 0)).set 121 (.int .i64 ns)).set 122 (.int .i64 ts)
  have HK := Lib.hid hk
  have O3 := Lib.hid o3
  have hst := wr_kbl Tryd.prog w G r K D
  rw [hG, wrOfP_mk _ _ _ _ _ _ (by rw [kbl_size, gcmC_size]; decide), put_gcm] at hst
  have hsz : (kbl r K D).size = 121 := kbl_size _ _ _
  have f121 := objAt_free (objAt_setRow_same hG (gcmC r K D 0 0)) 121
  have c121 := (objAt_cell (objAt_setRow_same hG (gcmC r K D 0 0)) 121).trans (gcmC_ns _ _ _ _ _)
  have o2 := objAt_set (objAt_setRow_same hG (gcmC r K D 0 0)) 121 (.int .i64 ns)
  rw [gcmC_set121] at o2
  have f122 := objAt_free o2 122
  have c122 := (objAt_cell o2 122).trans (gcmC_ts _ _ _ _ _)
  clear hk o1 o2 o3 hG
  generalize gcmC r K D 0 0 = g0 at *
  generalize gcmC r K D ns ts = g2 at *
  generalize kbl r K D = kb at *
  go_enter Tryd.func20, Tryd.ntmps20
  go_wp2_with (first
    | (go_at_call 25; (with_reducible refine (size_any _ _).mono ?_); rintro e w1 ⟨rfl, hw1⟩; replace hw1 := hw1.symm; subst hw1)
    | (go_at_call 26; (with_reducible refine (init_any _ _).mono ?_); rintro e w1 ⟨rfl, hw1⟩; replace hw1 := hw1.symm; subst hw1))
  go_ret2
  exact ⟨rfl, O3.out, HK.out⟩

/-- A pointer to a new block of GCM. -/
def GcmP (r : Nat) (K D : Nat → BitVec 32) (ns ts : Int) (w : World) (e : Ending) (w' : World) : Prop :=
  ∃ G, e = .returned (.tuple #[.pointer (some ⟨G, 0, none⟩), .nilIface]) ∧ w.heap.size ≤ G ∧ objAt w' G = some (.cells (gcmC r K D ns ts) 56 (0, 0)) ∧ Below w.heap.size w w'
set_option maxRecDepth 100000 in
set_option maxHeartbeats 400000 in
theorem gnew_any (B r : Nat) (K D : Nat → BitVec 32) (tB : TypeId) (ns ts : Int) (w : World) (hB : objAt w B = some (.cells (kbl r K D) tB (0, 0))) (hn : 0 < ns) (ht1 : 12 ≤ ts) (ht2 : ts ≤ 16) :
    Calls Tryd.prog 15 #[.pointer (some ⟨B, 0, none⟩), .int .i64 ns, .int .i64 ts] w (GcmP r K D ns ts w) := by
  have b1 : Below w.heap.size w (w.alloc (.cells (gcmC 0 (fun _ => 0#32) (fun _ => 0#32) 0 0) 56)) := (Below.refl _ _).alloc (Nat.le_refl _) _
  have g := newG_any w.heap.size B r K D 56 tB ns ts _ (objAt_alloc_at w (.cells (gcmC 0 (fun _ => 0#32) (fun _ => 0#32) 0 0) 56) _ rfl) (oa_below hB b1 (oa_lt hB)) hn ht1 ht2
  have B1 := Lib.hid b1
  clear hB b1
  go_enter Tryd.func15, Tryd.ntmps15
  go_wp2_with (go_at_call 20; (with_reducible refine g.mono ?_); rintro e w2 ⟨rfl, ho, hk⟩; have HO := Lib.hid ho; have HK := Lib.hid hk; clear ho hk)
  go_ret2
  exact ⟨w.heap.size, rfl, Nat.le_refl _, HO.out, B1.out.trans HK.out.bel⟩
set_option maxRecDepth 100000 in
set_option maxHeartbeats 400000 in
theorem inew_any (T : Tab) (ks : List (BitVec 8)) (vk : Value) (ns ts : Int) (w : World) (hk : isKey ks) (hT : TabAt T w) (hrk : rowOf 0 ks vk w) (hn : 0 < ns) (ht1 : 12 ≤ ts) (ht2 : ts ≤ 16) :
    Calls Tryd.prog 10 #[vk, .int .i64 ns, .int .i64 ts] w fun e w' => ∃ G D, e = .returned (.tuple #[.pointer (some ⟨G, 0, none⟩), .bool true]) ∧ w.heap.size ≤ G ∧ objAt w' G = some (.cells (gcmC (rOf ks) (kOf T ks) D ns ts) 56 (0, 0)) ∧ Below w.heap.size w w' := by
  have hkl : ks.length ≤ 281474976710656 := by unfold isKey at hk; omega
  have gk := copied_any w ks vk hrk hkl
  have HT := Lib.hid hT
  obtain ⟨pk, ck, rfl⟩ := hrk.slice
  clear hT hrk
  go_enter Tryd.func10, Tryd.ntmps10
  go_wp2_with (go_at_call 12; (with_reducible refine gk.mono ?_); rintro e w2 ⟨v', rfl, hb2, hr2⟩)
  have hT2 := HT.out.below hb2 HT.out.sz
  refine (new_any T ks v' w2 hk hT2 (hr2.mono (Nat.zero_le _))).mono ?_
  rintro e w3 ⟨B, rfl, hBl, ⟨D0, hB⟩, hb3⟩
  have hb23 := hb2.trans (hb3.mono hb2.size)
  have B3 := Lib.hid hb23
  have gN := gnew_any B (rOf ks) (kOf T ks) D0 52 ns ts w3 hB hn ht1 ht2
  clear hb2 hr2 hb3 hT2 hb23 hB gk hBl
  go_wp2_with (go_at_call 15; (with_reducible refine gN.mono ?_); rintro e w6 ⟨G, rfl, hGl, hG, hb6⟩; have HG := Lib.hid hG; have B6 := Lib.hid (B3.out.trans (hb6.mono B3.out.size)); have hGw : w.heap.size ≤ G := (by have := B3.out.size; omega); clear hG hb6 hGl gN)
  generalize w6 = w7 at *
  refine wp_region_chain (l := [_, _, _, _, _]) (fun _ => True) (fun w' => ∃ m, w' = w7.drewN m) (by kernel_rfl) (by kernel_rfl) ⟨1, rfl⟩ (fun _ _ => trivial) ?_
  iterate 5 (refine chain_val (v := ?_) (by rfl) ?_ ?_; rotate_left; (focus (intro w2 b2; (try obtain ⟨m2, rfl⟩ := b2); go_simp; (try with_reducible rfl); done)); simp only [Act.put, List.setIfInBounds_toArray, List.set_cons_zero, List.set_cons_succ])
  refine chain_nil fun w8 b8 => ?_
  obtain ⟨m8, rfl⟩ := b8
  go_wp2_with (fail)
  go_ret2
  exact ⟨G, D0, rfl, hGw, oa_drewN HG.out m8, bel_drewN B6.out m8⟩
end Go.Proofs.YtfcdldcekdbckacDoor
