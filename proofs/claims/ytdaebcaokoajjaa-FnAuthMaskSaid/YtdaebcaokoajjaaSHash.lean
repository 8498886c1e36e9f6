/- The reference's hash. -/
import Derived.Test.YtdaebcaokoajjaaBlocks
namespace Go.Proofs.Ytdaebcaokoajjaa
open Go Go.RowKit Gf

/-- What a read of sixteen cells at a row's element j gives, out of the block that is read. -/
def rdJ (w : World) (j : Nat) (alt : Result (Array Value)) : Option Obj → Result (Array Value)
  | some (.cells cs _ _) => if j * 16 + 16 ≤ cs.size then .ok (cs.toList.drop (j * 16) |>.take 16).toArray w else alt
  | _ => alt
def altRdJ (P : Program) (g j : Nat) (w : World) : Result (Array Value) := (loadCellsFrom ⟨g, j * 16, none⟩ 0 16 #[]).run P w
theorem fillC_blk (bs : List (BitVec 8)) (n j : Nat) (hj : j < n) : ((fillC bs bs.length (n * 16)).toList.drop (j * 16) |>.take 16).toArray = blk (blkAt bs j) := by
  apply Array.ext_getElem?
  intro i
  simp only [List.getElem?_toArray, List.getElem?_take, List.getElem?_drop]
  by_cases hi : i < 16
  · have hg := fillC_get bs bs.length (n * 16) (j * 16 + i) (by omega)
    have hg' : (fillC bs bs.length (n * 16)).toList[j * 16 + i]? = (fillC bs bs.length (n * 16))[j * 16 + i]? := by simp
    rw [if_pos hi, hg', hg, blk_get _ i hi]
    unfold blkAt
    rw [byte_of _ i hi, Nat.mul_comm 16 j]
    congr 3
    by_cases h : j * 16 + i < bs.length
    · rw [if_pos h]
    · rw [if_neg h, List.getD_eq_getElem?_getD, List.getElem?_eq_none (by omega)]; rfl
  · rw [if_neg hi, Array.getElem?_eq_none (by rw [blk_size]; omega)]
theorem rdJ_fill (w : World) (j n : Nat) (alt : Result (Array Value)) (bs : List (BitVec 8)) (t : TypeId) (fr : Nat × Nat) (hj : j < n) : rdJ w j alt (some (.cells (fillC bs bs.length (n * 16)) t fr)) = .ok (blk (blkAt bs j)) w := by
  unfold rdJ
  simp only [fillC_size]
  rw [if_pos (by omega), fillC_blk bs n j hj]
theorem rd16J (P : Program) (w : World) (g j : Nat) : (loadCellsFrom ⟨g, j * 16, none⟩ 0 16 #[]).run P w = rdJ w j (altRdJ P g j w) (objAt w g) := by
  unfold rdJ altRdJ objAt
  split
  · rename_i cs t fr h
    by_cases hs : j * 16 + 16 ≤ cs.size
    · rw [if_pos hs]
      have hlen : ((cs.toList.drop (j * 16)).take 16).length = 16 := by simp; omega
      have := run_loadCells_list (P := P) w ⟨g, j * 16, none⟩ ((cs.toList.drop (j * 16)).take 16) (fun k v hv => by
        rw [Addr.add_mid, cell_of_row w g (j * 16 + k) cs t fr h]
        simp only [List.getElem?_take, List.getElem?_drop] at hv
        split at hv
        · simpa using hv
        · cases hv)
      rw [hlen] at this
      simpa [loadCells] using this
    · rw [if_neg hs]
  · rfl
attribute [go_sem ↓] rd16J

set_option maxRecDepth 100000 in
set_option maxHeartbeats 4000000 in
theorem shash_any (key : BitVec 128) (inp : List (List (BitVec 8))) (v : Value) (w : World) (hin : rowsOf 0 inp v w) (hbs : ∀ bs ∈ inp, bs.length ≤ 2147483647) :
    Calls Try.prog 34 #[.agg (blk key), v] w fun e w' => e = .returned (.agg (blk (hashOf inp key))) ∧ Below w.heap.size w w' := by
  obtain ⟨p, c, rfl, h2, h3, h4⟩ := hin
  have hH := Lib.hid h4
  clear h4
  go_enter Try.func34, Try.ntmps34
  go_wp2
  go_loopw [13] (fun i wr => ∃ k : Nat, k ≤ inp.length ∧ i = .int .i64 k ∧ objAt wr w.heap.size = some (.cells (blk key) 33 (0, 0)) ∧ objAt wr (w.heap.size + 1) = some (.cells (blk 0#128) 33 (0, 0)) ∧ objAt wr (w.heap.size + 1 + 1) = some (.cells (blk (yk (seqOf inp) key (cnt inp k))) 33 (0, 0)) ∧ Below w.heap.size w wr) (fun i _ => inp.length - (intOf i).toNat)
  case atStart => exact ⟨0, by omega, rfl, by simp [go_sem], by simp [go_sem], by rw [cnt_zero]; simp [go_sem, yk], by go_grown⟩
  case round =>
    obtain ⟨k, hk, rfl, r0, r1, r2, hb⟩ := hrel
    have z2 := oa_lt r2
    by_cases hlt : k < inp.length
    · have hlt' : (k : Int) < inp.length := by omega
      obtain ⟨bs, hbsk⟩ : ∃ bs, inp[k]? = some bs := ⟨_, List.getElem?_eq_getElem hlt⟩
      rcases hH.out with h4 | ⟨rb, ro, rfl, _, hrb, hcells⟩
      · rw [h4] at hlt; simp at hlt
      obtain ⟨rv, hrv, hrow⟩ := hcells k bs hbsk
      have hc : wr.cell? ⟨rb, ro + k, none⟩ = some rv := (cell_same (hb.block rb hrb) _).trans hrv
      have hrow1 : rowOf 0 bs rv wr := by
        obtain ⟨p1, c1, g1, g2, g3, g4⟩ := hrow
        refine ⟨p1, c1, g1, g2, g3, g4.imp id ?_⟩
        rintro ⟨b1, o1, g5, g6, g7, g8⟩
        exact ⟨b1, o1, g5, g6, by have := hb.size; omega, fun i x hx => (cell_same (hb.block b1 g7) _).trans (g8 i x hx)⟩
      have hblen : bs.length ≤ 2147483647 := hbs bs (List.mem_of_getElem? hbsk)
      obtain ⟨rp, rn, rc, erv⟩ := rowOf_slice hrow1
      subst erv
      have gB := blocks_any bs _ wr hrow1 hblen
      have hB := Lib.hid hb
      have hcnt := cnt_succ inp k bs hbsk
      have hnbl : nb bs.length ≤ 268435456 := by unfold nb; omega
      clear hb hrow1 hcells hrow hrv hH
      go_wp2_with (go_at_call 48; (with_reducible refine gB.mono ?_); rintro e w1 ⟨N, rfl, hN, hNo, hb1⟩; have s0 := oa_below r0 hb1 (by omega); have s1 := oa_below r1 hb1 (by omega); have s2 := oa_below r2 hb1 (by omega); have hB1 := Lib.hid (hB.out.trans (hb1.mono (by omega))); clear hb1)
      clear gB hc r0 r1 r2
      have hNne : N ≠ w.heap.size + 1 + 1 := by omega
      go_loopw [20] (fun i wr => ∃ j : Nat, j ≤ nb bs.length ∧ i = .int .i64 j ∧ objAt wr w.heap.size = some (.cells (blk key) 33 (0, 0)) ∧ objAt wr (w.heap.size + 1) = some (.cells (blk 0#128) 33 (0, 0)) ∧ objAt wr (w.heap.size + 1 + 1) = some (.cells (blk (yk (seqOf inp) key (cnt inp k + j))) 33 (0, 0)) ∧ objAt wr N = some (.cells (fillC bs bs.length (nb bs.length * 16)) 33 (0, 0)) ∧ Below w.heap.size w wr) (fun i _ => nb bs.length - (intOf i).toNat)
      case atStart => exact ⟨0, by omega, rfl, s0, s1, s2, hNo, hB1.out⟩
      case round =>
        clear s0 s1 s2 hNo hB1
        obtain ⟨j, hj, rfl, s0, s1, s2, s3, bb⟩ := hrel
        by_cases hjlt : j < nb bs.length
        · have hjlt' : (j : Int) < nb bs.length := by omega
          have rdf := fun (W : World) (alt : Result (Array Value)) => rdJ_fill W j (nb bs.length) alt bs 33 (0, 0) hjlt
          have bB := Lib.hid bb
          clear bb
          go_wp2
          clear rdf
          replace s0 := oa_alloc s0 (.cells (blk (blkAt bs j)) 33)
          replace s1 := oa_alloc s1 (.cells (blk (blkAt bs j)) 33)
          replace s2 := oa_alloc s2 (.cells (blk (blkAt bs j)) 33)
          replace s3 := oa_alloc s3 (.cells (blk (blkAt bs j)) 33)
          have s4 := objAt_alloc_at wr (.cells (blk (blkAt bs j)) 33) _ rfl
          have zM : w.heap.size ≤ wr.heap.size := bB.out.size
          have bb := bB.out.alloc zM (.cells (blk (blkAt bs j)) 33)
          generalize wr.alloc (.cells (blk (blkAt bs j)) 33) = w0 at s0 s1 s2 s3 s4 bb ⊢
          generalize wr.heap.size = M at s4 zM ⊢
          clear bB
          refine wp_region_rel (l := [_, _, _, _, _]) (last := _) (fun w' => objAt w' w.heap.size = some (.cells (blk key) 33 (0, 0)) ∧ objAt w' (w.heap.size + 1) = some (.cells (blk 0#128) 33 (0, 0)) ∧ objAt w' (w.heap.size + 1 + 1) = some (.cells (blk (yk (seqOf inp) key (cnt inp k + j))) 33 (0, 0)) ∧ objAt w' N = some (.cells (fillC bs bs.length (nb bs.length * 16)) 33 (0, 0)) ∧ objAt w' M = some (.cells (blk (blkAt bs j)) 33 (0, 0)) ∧ Hid (Below w.heap.size w w'))
            [isv (.agg (blk (yk (seqOf inp) key (cnt inp k + j)))), isv (.agg (blk (blkAt bs j))), isv (.agg (blk (yk (seqOf inp) key (cnt inp k + j) ^^^ blkAt bs j))), isv (.agg (blk key)), isv (.agg (blk (gmul (yk (seqOf inp) key (cnt inp k + j) ^^^ blkAt bs j) key)))]
            (by kernel_rfl) (by kernel_rfl) ⟨oa_drew s0, oa_drew s1, oa_drew s2, oa_drew s3, oa_drew s4, start0 bb⟩ (fun _ _ hb hS => ⟨oa_below hS.1 hb (oa_lt hS.1), held4 hb hS.2⟩) ?rstab ?rops ?rlast
          case rstab => exact stabs_cons (stab_isv _) (stabs_cons (stab_isv _) (stabs_cons (stab_isv _) (stabs_cons (stab_isv _) (stabs_cons (stab_isv _) stabs_nil))))
          case rops =>
            refine ⟨?_, ?_, ?_, ?_, ?_, trivial⟩
            · intro u w' hS hd
              refine opV_val (v := .agg (blk (yk (seqOf inp) key (cnt inp k + j)))) (by rfl) ?_ rfl
              simp only [frameOf, Act.put, List.setIfInBounds_toArray, List.set_cons_zero, List.set_cons_succ]
              go_simp
            · intro u w' hS hd
              refine opV_val (v := .agg (blk (blkAt bs j))) (by rfl) ?_ rfl
              simp only [frameOf, Act.put, List.setIfInBounds_toArray, List.set_cons_zero, List.set_cons_succ]
              go_simp
            · intro u w' hS hd
              have d0 : u 0 = .agg (blk (yk (seqOf inp) key (cnt inp k + j))) := hd ⟨0, .data⟩ (by simp) rfl
              have d1 : u 1 = .agg (blk (blkAt bs j)) := hd ⟨1, .data⟩ (by simp) rfl
              refine opV_callB (f := 44) (args := #[.agg (blk (yk (seqOf inp) key (cnt inp k + j))), .agg (blk (blkAt bs j))]) (by rfl) ?_ (sxor_any (yk (seqOf inp) key (cnt inp k + j)) (blkAt bs j) w')
              simp only [frameOf, Act.put, List.setIfInBounds_toArray, List.set_cons_zero, List.set_cons_succ]
              go_simp
            · intro u w' hS hd
              refine opV_val (v := .agg (blk key)) (by rfl) ?_ rfl
              simp only [frameOf, Act.put, List.setIfInBounds_toArray, List.set_cons_zero, List.set_cons_succ]
              go_simp
            · intro u w' hS hd
              have d2 : u 2 = .agg (blk (yk (seqOf inp) key (cnt inp k + j) ^^^ blkAt bs j)) := hd ⟨2, .data⟩ (by simp) rfl
              have d3 : u 3 = .agg (blk key) := hd ⟨3, .data⟩ (by simp) rfl
              refine opV_callB (f := 28) (args := #[.agg (blk (yk (seqOf inp) key (cnt inp k + j) ^^^ blkAt bs j)), .agg (blk key)]) (by rfl) ?_ (sprod_any (yk (seqOf inp) key (cnt inp k + j) ^^^ blkAt bs j) key w')
              simp only [frameOf, Act.put, List.setIfInBounds_toArray, List.set_cons_zero, List.set_cons_succ]
              go_simp
          case rlast =>
            intro u w1 hS hV
            have d4 : u 4 = .agg (blk (gmul (yk (seqOf inp) key (cnt inp k + j) ^^^ blkAt bs j) key)) := hV 4 (by decide)
            simp only [frameOf, Act.put, List.setIfInBounds_toArray, List.set_cons_zero, List.set_cons_succ]
            simp only [wpOp, List.length_cons, List.length_nil, Nat.zero_add, Nat.reduceAdd]
            go_simp
            refine .inl ?_
            have hN1 : N ≠ w.heap.size + 1 + 1 := hNne
            have p0 := oa_row hS.1 (b := w.heap.size + 1 + 1) (by omega) (blk (gmul (yk (seqOf inp) key (cnt inp k + j) ^^^ blkAt bs j) key))
            have p1 := oa_row hS.2.1 (b := w.heap.size + 1 + 1) (by omega) (blk (gmul (yk (seqOf inp) key (cnt inp k + j) ^^^ blkAt bs j) key))
            have p2 := objAt_setRow_same hS.2.2.1 (blk (gmul (yk (seqOf inp) key (cnt inp k + j) ^^^ blkAt bs j) key))
            have p3 := oa_row hS.2.2.2.1 hN1 (blk (gmul (yk (seqOf inp) key (cnt inp k + j) ^^^ blkAt bs j) key))
            have b3 := bel_setRow hS.2.2.2.2.2.out (show w.heap.size ≤ w.heap.size + 1 + 1 by omega) (blk (gmul (yk (seqOf inp) key (cnt inp k + j) ^^^ blkAt bs j) key))
            have ey : gmul (yk (seqOf inp) key (cnt inp k + j) ^^^ blkAt bs j) key = yk (seqOf inp) key (cnt inp k + (j + 1)) := by
              show _ = gmul (yk (seqOf inp) key (cnt inp k + j) ^^^ (seqOf inp).getD (cnt inp k + j) 0#128) key
              rw [List.getD_eq_getElem?_getD, seq_at inp k bs hbsk j hjlt]; rfl
            rw [ey] at p0 p1 p2 p3 b3 ⊢
            generalize w1.setRow (w.heap.size + 1 + 1) (blk (yk (seqOf inp) key (cnt inp k + (j + 1)))) = w2 at p0 p1 p2 p3 b3 ⊢
            go_wp2
            go_roundw
            case rel => exact ⟨j + 1, by omega, by go_num, p0, p1, p2, p3, b3⟩
            case measure => simp [intOf]; omega
        · obtain rfl : j = nb bs.length := by omega
          have bB := Lib.hid bb
          clear bb
          go_wp2
          go_roundw
          case rel => exact ⟨k + 1, by omega, by go_num, s0, s1, by rw [hcnt]; exact s2, bB.out⟩
          case measure => simp [intOf]; omega
    · obtain rfl : k = inp.length := by omega
      rw [cnt_all] at r2
      have hB := Lib.hid hb
      clear hb
      go_wp2
      refine bodyPost_ret (retB (x := hashOf inp key) (t := 33) (fr := (0, 0)) rfl rfl (objAt_setRow_same r1 _)) rfl ⟨rfl, ?_⟩
      exact bel_setRow hB.out (by omega) _
end Go.Proofs.Ytdaebcaokoajjaa
