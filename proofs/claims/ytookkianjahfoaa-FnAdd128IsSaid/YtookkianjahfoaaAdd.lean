/- The walk of the counter's addition. -/
import Derived.Test.YtookkianjahfoaaClose
import Derived.BigQuiet
import Derived.Handy
import Derived.Lib.Hide
import Derived.Laws.Externs
namespace Go.Proofs.Ytookkianjahfoaa
open Go.RowKit
theorem lookup12 : Try.prog.funcs[12]? = some Try.f12 := by kernel_rfl
theorem add64 (x y c : Int) (hx : 0 ≤ x) (hy : 0 ≤ y) (hc0 : 0 ≤ c) (hc : c ≤ 1) (w : World) : (callFunc 12 #[.int .u64 x, .int .u64 y, .int .u64 c]).run Try.prog w =
    .ok (.value (.tuple #[.int .u64 ((x + y + c) % 18446744073709551616), .int .u64 ((x + y + c) / 18446744073709551616)])) w := by
  rw [run_callFunc_extern lookup12 (by kernel_rfl) (by kernel_rfl) (by kernel_rfl) (e := add64Entry) (by kernel_rfl), run_add64 x y c hx hy hc0 hc]
  rfl
theorem add64_0 (x y : Int) (hx : 0 ≤ x) (hy : 0 ≤ y) (w : World) : (callFunc 12 #[.int .u64 x, .int .u64 y, .int .u64 0]).run Try.prog w =
    .ok (.value (.tuple #[.int .u64 ((x + y) % 18446744073709551616), .int .u64 ((x + y) / 18446744073709551616)])) w := by
  simpa using add64 x y 0 hx hy (Int.le_refl 0) (by decide) w
theorem add64_m (y c : Int) (hy : 0 ≤ y) (hc0 : 0 ≤ c) (hc : c ≤ 1) (w : World) : (callFunc 12 #[.int .u64 y, .int .u64 0, .int .u64 c]).run Try.prog w =
    .ok (.value (.tuple #[.int .u64 ((y + c) % 18446744073709551616), .int .u64 ((y + c) / 18446744073709551616)])) w := by
  simpa using add64 y 0 c hy (Int.le_refl 0) hc0 hc w
/-- A word. -/
def Word (x : Int) : Prop := 0 ≤ x ∧ x < 18446744073709551616
def loS (a c : Int) : Int := (a + c) % 18446744073709551616
def hiS (a b c : Int) : Int := (b + (a + c) / 18446744073709551616) % 18446744073709551616
theorem add_any (a b c : Int) (ha : Word a) (hb : Word b) (hc : Word c) (w : World) :
    Calls Try.prog 10 #[.int .u64 a, .int .u64 b, .int .u64 c] w fun e w' => e = .returned (.tuple #[.int .u64 (loS a c), .int .u64 (hiS a b c)]) ∧ w' = w := by
  obtain ⟨a1, a2⟩ := ha; obtain ⟨b1, b2⟩ := hb; obtain ⟨c1, c2⟩ := hc
  have k0 : 0 ≤ (a + c) / 18446744073709551616 := by omega
  have k1 : (a + c) / 18446744073709551616 ≤ 1 := by omega
  go_enter Try.func10, Try.ntmps10
  go_wp2_with (first | simp only [add64_0 a c a1 c1] | simp only [add64_m b _ b1 k0 k1])
  go_ret2
  exact ⟨rfl, rfl⟩
theorem zadd_any (a b c : Int) (ha : Word a) (hb : Word b) (hc : Word c) (w : World) :
    Calls Try.prog 8 #[.int .u64 a, .int .u64 b, .int .u64 c] w fun e w' => e = .returned (.tuple #[.int .u64 (loS a c), .int .u64 (hiS a b c)]) ∧ w' = w := by
  go_enter Try.func8, Try.ntmps8
  go_wp2_with (go_at_call 10; (with_reducible refine (add_any a b c ha hb hc _).mono ?_); rintro e w1 ⟨rfl, rfl⟩)
  go_ret2
  exact ⟨rfl, rfl⟩
theorem iadd_any (a b c : Int) (ha : Word a) (hb : Word b) (hc : Word c) (w : World) :
    Calls Try.prog 5 #[.int .u64 a, .int .u64 b, .int .u64 c] w fun e w' => e = .returned (.tuple #[.int .u64 (loS a c), .int .u64 (hiS a b c)]) ∧ w' = w := by
  go_enter Try.func5, Try.ntmps5
  go_wp2_with (go_at_call 8; (with_reducible refine (zadd_any a b c ha hb hc _).mono ?_); rintro e w1 ⟨rfl, rfl⟩)
  go_ret2
  exact ⟨rfl, rfl⟩
theorem add_is (a b c : Int) (ha : Word a) (hb : Word b) (hc : Word c) (w : World) :
    Calls Try.prog 3 #[.int .u64 a, .int .u64 b, .int .u64 c] w fun e w' => e = .returned (.bool true) ∧ Below w.heap.size w w' := by
  obtain ⟨a1, a2⟩ := id ha; obtain ⟨b1, b2⟩ := id hb; obtain ⟨c1, c2⟩ := id hc
  have e1 : IntKind.u64.wrap (a + c) = loS a c := by rw [IntKind.wrap_u64]; rfl
  by_cases h : loS a c < a
  · have h' : a + c ≥ 18446744073709551616 := by unfold loS at h; omega
    have e2 : IntKind.u64.wrap (b + 1) = hiS a b c := by
      rw [IntKind.wrap_u64]; unfold hiS
      have : (a + c) / 18446744073709551616 = 1 := by omega
      rw [this]
    go_enter Try.func3, Try.ntmps3
    go_wp2_with (go_at_call 5; (with_reducible refine (iadd_any a b c ha hb hc _).mono ?_); rintro e w1 ⟨rfl, rfl⟩)
    go_ret
    exact ⟨rfl, Below.refl _ _⟩
  · have h' : a + c < 18446744073709551616 := by unfold loS at h; omega
    have e2 : hiS a b c = b := by
      unfold hiS
      have : (a + c) / 18446744073709551616 = 0 := by omega
      rw [this]; omega
    go_enter Try.func3, Try.ntmps3
    go_wp2_with (go_at_call 5; (with_reducible refine (iadd_any a b c ha hb hc _).mono ?_); rintro e w1 ⟨rfl, rfl⟩)
    go_ret
    exact ⟨rfl, Below.refl _ _⟩
end Go.Proofs.Ytookkianjahfoaa
namespace Go.Proofs.Ytookkianjahfoaa
theorem word_of {a : Int} (h : (Lit.int .u64 a).wf = true) : Word a := by
  have hx : 0 ≤ a ∧ a ≤ 18446744073709551615 := by simpa [Lit.wf, IntKind.min, IntKind.max, IntKind.signed, IntKind.bits] using h
  unfold Word; omega
end Go.Proofs.Ytookkianjahfoaa
