/- One step of the code's GHASH is the product of the field. Plain Lean, no program in sight. -/
import Derived.Test.YtfcdldcekdbckacDoorStep
namespace Go.Proofs.Gf

/-- A 64-bit product at 32 bits times s. -/
def placeQ (s : Nat) (c : BitVec 64) : Q4 :=
  match s with
  | 0 => ⟨c, 0#64, 0#64, 0#64⟩
  | 1 => ⟨c <<< 32, c >>> 32, 0#64, 0#64⟩
  | 2 => ⟨0#64, c, 0#64, 0#64⟩
  | 3 => ⟨0#64, c <<< 32, c >>> 32, 0#64⟩
  | 4 => ⟨0#64, 0#64, c, 0#64⟩
  | 5 => ⟨0#64, 0#64, c <<< 32, c >>> 32⟩
  | _ => ⟨0#64, 0#64, 0#64, c⟩

def one4 (i k : Nat) (u : BitVec 32) : BitVec 32 := if k = i then u else 0#32

theorem prodM_single (m : BitVec 32 → BitVec 32 → BitVec 64) (hl : ∀ y, m 0#32 y = 0#64) (hr : ∀ x, m x 0#32 = 0#64) (u v : BitVec 32) :
    ∀ i, i < 4 → ∀ j, j < 4 → prodM m (one4 i 0 u) (one4 i 1 u) (one4 i 2 u) (one4 i 3 u) (one4 j 0 v) (one4 j 1 v) (one4 j 2 v) (one4 j 3 v) = placeQ (i + j) (m u v) := by
  intro i hi j hj
  match i, hi, j, hj with
  | 0, _, 0, _ | 0, _, 1, _ | 0, _, 2, _ | 0, _, 3, _ | 1, _, 0, _ | 1, _, 1, _ | 1, _, 2, _ | 1, _, 3, _
  | 2, _, 0, _ | 2, _, 1, _ | 2, _, 2, _ | 2, _, 3, _ | 3, _, 0, _ | 3, _, 1, _ | 3, _, 2, _ | 3, _, 3, _ =>
    simp [prodM, loK, hiK, one4, placeQ, hl, hr]

theorem wd_basis : (List.range 128).all (fun a => (List.range 4).all fun k => wd (1#128 <<< a) k == one4 (a / 32) k (1#32 <<< (a % 32))) = true := by decide +kernel
theorem wd_bit (a k : Nat) (ha : a < 128) (hk : k < 4) : wd (1#128 <<< a) k = one4 (a / 32) k (1#32 <<< (a % 32)) := by
  have := List.all_eq_true.1 (List.all_eq_true.1 wd_basis a (List.mem_range.2 ha)) k (List.mem_range.2 hk)
  simpa using this

theorem red_basis : (List.range 7).all (fun s => (List.range 63).all fun t => redQ (placeQ s (1#64 <<< t)) == xs (254 - (32 * s + t)) e0) = true := by decide +kernel
theorem red_bit (s t : Nat) (hs : s < 7) (ht : t < 63) : redQ (placeQ s (1#64 <<< t)) = xs (254 - (32 * s + t)) e0 := by
  have := List.all_eq_true.1 (List.all_eq_true.1 red_basis s (List.mem_range.2 hs)) t (List.mem_range.2 ht)
  simpa using this

theorem bit_xs (a : Nat) (ha : a < 128) : 1#128 <<< a = xs (127 - a) e0 := by
  rw [xs_e0 (127 - a) (by omega)]
  congr 1
  omega

theorem gmul_bits (a b : Nat) (ha : a < 128) (hb : b < 128) : gmul (1#128 <<< a) (1#128 <<< b) = xs (254 - (a + b)) e0 := by
  rw [bit_xs a ha, bit_xs b hb, gmul_xs_left, gmul_one_left, xs_add]
  congr 1
  omega

theorem stepC_bits (a b : Nat) (ha : a < 128) (hb : b < 128) : stepC (1#128 <<< a) (1#128 <<< b) = gmul (1#128 <<< a) (1#128 <<< b) := by
  rw [gmul_bits a b ha hb]
  unfold stepC prodW
  rw [wd_bit a 0 ha (by decide), wd_bit a 1 ha (by decide), wd_bit a 2 ha (by decide), wd_bit a 3 ha (by decide),
    wd_bit b 0 hb (by decide), wd_bit b 1 hb (by decide), wd_bit b 2 hb (by decide), wd_bit b 3 hb (by decide)]
  unfold prod
  rw [prodM_single clm clm_zero_left clm_zero_right _ _ (a / 32) (by omega) (b / 32) (by omega), clm_bits _ _ (by omega) (by omega), red_bit _ _ (by omega) (by omega)]
  congr 1
  omega

/-- ████ ONE STEP OF THE CODE IS THE PRODUCT OF THE FIELD ████ -/
theorem stepC_gmul (y h : BitVec 128) : stepC y h = gmul y h := by
  have hg1 : ∀ h, Addi (fun y => gmul y h) := fun h a b => gmul_xor_left a b h
  have hg2 : ∀ y, Addi (fun h => gmul y h) := fun y a b => gmul_xor_right a b y
  refine addi_ext (stepC_left h) (hg1 h) (fun a ha => ?_) y
  exact addi_ext (stepC_right _) (hg2 _) (fun b hb => stepC_bits a b ha hb) h

end Go.Proofs.Gf
