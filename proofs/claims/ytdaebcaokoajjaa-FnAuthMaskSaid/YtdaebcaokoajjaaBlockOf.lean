/- Bytes as a block. -/
import Derived.Test.YtdaebcaokoajjaaIs
namespace Go.Proofs.Ytdaebcaokoajjaa
open Go Go.RowKit Gf

theorem run_copy16 (W : World) (g : Nat) (x : BitVec 128) (v : Value) (ty : TypeId) (hg : objAt W g = some (.cells (blk 0#128) 27 (0, 0))) (h : rowOf 0 (bytesOf x) v W) :
    (Builtin.copy_ #[35, 35] ty #[.slice (some ⟨g, 0, none⟩) 16 16, v]).run Try.prog W = .ok (goInt ((16 : Nat) : Int)) (W.setRow g (blk x)) := by
  obtain ⟨p, c, rfl, h2, h3, h4⟩ := h
  have hne : bytesOf x ≠ [] := by intro e; have := bytesOf_length x; rw [e] at this; cases this
  obtain ⟨b, o, rfl, _, hb, hcell⟩ := h4.resolve_left hne
  have hcs : (bcells (bytesOf x)).length = 16 := by simp [bcells, bytesOf]
  have h := run_copy_row (P := Try.prog) W 35 35 ty 5 g 0 16 16 ⟨b, o, none⟩ (bytesOf x).length c (blk 0#128) 27 (bcells (bytesOf x)) Try.underlying35 (by kernel_rfl) hg (by rw [hcs, bytesOf_length]; rfl)
    (fun i u hu => by
      rw [bcells_get] at hu
      obtain ⟨y, hy, rfl⟩ := Option.map_eq_some_iff.1 hu
      rw [Addr.add_mid]
      exact hcell i y hy)
    (by rw [hcs, blk_size]; omega) (fun u hu => by
      simp only [bcells, List.mem_map] at hu
      obtain ⟨_, _, rfl⟩ := hu; rfl)
  rw [h, hcs]
  congr 2

theorem retA2 {fn : Func} {p q : Tmp} (h : fn.results = #[.cell p 27, .tmp q]) {tmps : Array Value} {w : World} {g : Nat} {t : TypeId} {fr : Nat × Nat} {x : BitVec 128} {v : Value}
    (hp : tmps.getD p undef = .pointer (some ⟨g, 0, none⟩)) (hq : tmps.getD q undef = v) (hg : objAt w g = some (.cells (blk x) t fr)) : (results fn tmps).run Try.prog w = .ok (.tuple #[.agg (blk x), v]) w := by
  have hp' : tmps[p]?.getD undef = .pointer (some ⟨g, 0, none⟩) := by simpa using hp
  have hq' : tmps[q]?.getD undef = v := by simpa using hq
  have hr := run_loadVar_row (P := Try.prog) w g t 27 (blk x) fr _ hg Try.underlying27 rfl (by rw [blk_size]; kernel_rfl)
  simp [results, h, hp', hq', asAddr, hr]

set_option maxHeartbeats 1000000 in
theorem blockOf_any (x : BitVec 128) (v : Value) (w : World) (h : rowOf 0 (bytesOf x) v w) :
    Calls Try.prog 35 #[v] w fun e w' => e = .returned (.tuple #[.agg (blk x), .bool true]) ∧ Below w.heap.size w w' := by
  have b2 : Below w.heap.size w ((w.alloc (.cells (blk 0#128) 27)).alloc (.cells (blk 0#128) 27)) := by go_grown
  have hr := stab_rowOf _ _ _ _ _ b2 h
  have hcp := run_copy16 ((w.alloc (.cells (blk 0#128) 27)).alloc (.cells (blk 0#128) 27)) (w.heap.size + 1) x v 3 (objAt_alloc_at _ _ _ (by simp)) hr
  have hlen := bytesOf_length x
  obtain ⟨p, c, rfl, _, _, _⟩ := h
  rw [hlen] at hcp ⊢
  have b4 : Below w.heap.size w (((w.alloc (.cells (blk x) 27)).alloc (.cells (blk x) 27))) := by go_grown
  clear b2 hr hlen
  go_enter Try.func35, Try.ntmps35
  go_wp2
  refine bodyPost_ret (retA2 (x := x) (t := 27) (fr := (0, 0)) rfl rfl rfl ?_) rfl ⟨rfl, ?_⟩
  · simp [go_sem]
  · exact b4
end Go.Proofs.Ytdaebcaokoajjaa
