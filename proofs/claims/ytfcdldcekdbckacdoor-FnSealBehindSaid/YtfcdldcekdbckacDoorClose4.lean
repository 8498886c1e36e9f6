/- What came in, opened: the tables and one variable more. -/
import Derived.Test.YtfcdldcekdbckacDoorClose2
namespace Go.Proofs.YtfcdldcekdbckacDoor
open Go Go.ChangeShapes Go.WideShapes Go.ChangeAt Go.RowKit Gf
set_option maxRecDepth 100000
section
variable {H : Type} {enc : TypeId × Value → H}
def moreNames : List String := ["loop.example/pub-g03026/pub/aes.powx", "loop.example/pub-g03026/pub/aes.sbox0", "loop.example/pub-g03026/pub/aes.td0", "loop.example/pub-g03026/pub/aes.td1", "loop.example/pub-g03026/pub/aes.td2", "loop.example/pub-g03026/pub/aes.td3", "loop.example/pub-g03026/pub/aes.te0", "loop.example/pub-g03026/pub/aes.te1", "loop.example/pub-g03026/pub/aes.te2", "loop.example/pub-g03026/pub/aes.te3", "loop.example/pub-g03026/pub/aesgcm.errOpen"]
theorem open_more {W : World} {gs : List (DataW H)} {q : List MemPlace} (h : DataW.TrodVars enc Tryd.prog W (fun _ => true) moreNames gs q) : ∃ T, TabAt T W := by
  obtain ⟨px, _, _, a0, b0, h⟩ := open_bs (g := 1) (k := 16) (t0 := 69) (by decide) (by kernel_rfl) (by kernel_rfl) Tryd.underlying69 (by kernel_rfl) h
  obtain ⟨sb, _, _, a1, b1, h⟩ := open_bs (g := 3) (k := 256) (t0 := 98) (by decide) (by kernel_rfl) (by kernel_rfl) Tryd.underlying98 (by kernel_rfl) h
  obtain ⟨d0, _, _, a2, b2, h⟩ := open_ws (g := 2) (by kernel_rfl) (by kernel_rfl) h
  obtain ⟨d1, _, _, a3, b3, h⟩ := open_ws (g := 4) (by kernel_rfl) (by kernel_rfl) h
  obtain ⟨d2, _, _, a4, b4, h⟩ := open_ws (g := 5) (by kernel_rfl) (by kernel_rfl) h
  obtain ⟨d3, _, _, a5, b5, h⟩ := open_ws (g := 6) (by kernel_rfl) (by kernel_rfl) h
  obtain ⟨e0, _, _, a6, b6, h⟩ := open_ws (g := 7) (by kernel_rfl) (by kernel_rfl) h
  obtain ⟨e1, _, _, a7, b7, h⟩ := open_ws (g := 8) (by kernel_rfl) (by kernel_rfl) h
  obtain ⟨e2, _, _, a8, b8, h⟩ := open_ws (g := 9) (by kernel_rfl) (by kernel_rfl) h
  obtain ⟨e3, _, _, a9, b9, _⟩ := open_ws (g := 10) (by kernel_rfl) (by kernel_rfl) h
  exact ⟨⟨e0, e1, e2, e3, d0, d1, d2, d3, sb, px⟩, by unfold nG; omega, a6, a7, a8, a9, a2, a3, a4, a5, a1, a0⟩
theorem more_eleven {W : World} {gs : List (DataW H)} {q : List MemPlace} (h : DataW.TrodVars enc Tryd.prog W (fun _ => true) moreNames gs q) : ∃ g1 g2 g3 g4 g5 g6 g7 g8 g9 g10 g11, gs = [g1, g2, g3, g4, g5, g6, g7, g8, g9, g10, g11] := by
  have key : ∀ (ns : List String) (gs : List (DataW H)) (q : List MemPlace), DataW.TrodVars enc Tryd.prog W (fun _ => true) ns gs q → gs.length = ns.length := by
    intro ns
    induction ns with
    | nil => intro gs q h; obtain ⟨rfl, _⟩ := trodVars_none h; rfl
    | cons n ns ih =>
      intro gs q h
      cases gs with
      | nil => exact h.elim
      | cons d ds =>
        obtain ⟨_, _, _, _, _, _, _, _, _, _, h5, _⟩ := h
        simp [ih _ _ h5]
  have hl : gs.length = 11 := key _ _ _ h
  match gs, hl with
  | [a, b, c, d, e, f, g, h, i, j, k], _ => exact ⟨a, b, c, d, e, f, g, h, i, j, k, rfl⟩
end
end Go.Proofs.YtfcdldcekdbckacDoor
