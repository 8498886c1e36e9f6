/- How the walk spells numbers of 8, 32 and 64 bits: as words ('n8', 'n32', 'n64' of a word), so that each operation on them is an operation on words. -/
import Derived.Test.YtfcdldcekdbckacDoorRows
import Derived.WalkKit
import Derived.WalkLawsBesides
import Derived.WalkSpells
import Derived.Laws.Bits64
namespace Go.Proofs.YtfcdldcekdbckacDoor
open Go.RowKit

def n8 (x : BitVec 8) : Int := (x.toNat : Int)
def n32 (x : BitVec 32) : Int := (x.toNat : Int)
def n64 (x : BitVec 64) : Int := (x.toNat : Int)

/-! The operations on words, behind names, so that simp leaves them as they stand -/
def wand {w : Nat} (x y : BitVec w) : BitVec w := x &&& y
def wor {w : Nat} (x y : BitVec w) : BitVec w := x ||| y
def wxor {w : Nat} (x y : BitVec w) : BitVec w := x ^^^ y
def wmul {w : Nat} (x y : BitVec w) : BitVec w := x * y
def wshl {w : Nat} (x : BitVec w) (n : Nat) : BitVec w := x <<< n
def wshr {w : Nat} (x : BitVec w) (n : Nat) : BitVec w := x >>> n
def wext {w : Nat} (v : Nat) (x : BitVec w) : BitVec v := x.setWidth v
def weq {w : Nat} (x y : BitVec w) : Bool := x == y

theorem n8_lo (x : BitVec 8) : 0 ≤ n8 x := Int.natCast_nonneg _
theorem n8_hi (x : BitVec 8) : n8 x < 256 := by have := x.isLt; unfold n8; omega
theorem n32_lo (x : BitVec 32) : 0 ≤ n32 x := Int.natCast_nonneg _
theorem n32_hi (x : BitVec 32) : n32 x < 4294967296 := by have := x.isLt; unfold n32; omega
theorem n64_lo (x : BitVec 64) : 0 ≤ n64 x := Int.natCast_nonneg _
theorem n64_hi (x : BitVec 64) : n64 x < 18446744073709551616 := by have := x.isLt; unfold n64; omega

theorem n8_of (n : Int) (h0 : 0 ≤ n) (h1 : n ≤ 255) : n = n8 (BitVec.ofInt 8 n) := by
  unfold n8; rw [BitVec.toNat_ofInt]; omega
theorem n32_of (n : Int) (h0 : 0 ≤ n) (h1 : n ≤ 4294967295) : n = n32 (BitVec.ofInt 32 n) := by
  unfold n32; rw [BitVec.toNat_ofInt]; omega
theorem n64_of (n : Int) (h0 : 0 ≤ n) (h1 : n ≤ 18446744073709551615) : n = n64 (BitVec.ofInt 64 n) := by
  unfold n64; rw [BitVec.toNat_ofInt]; omega

theorem n8_inj {x y : BitVec 8} (h : n8 x = n8 y) : x = y := by unfold n8 at h; exact BitVec.eq_of_toNat_eq (by omega)
theorem n32_inj {x y : BitVec 32} (h : n32 x = n32 y) : x = y := by unfold n32 at h; exact BitVec.eq_of_toNat_eq (by omega)
theorem n64_inj {x y : BitVec 64} (h : n64 x = n64 y) : x = y := by unfold n64 at h; exact BitVec.eq_of_toNat_eq (by omega)

@[go_sem] theorem eq8 (x y : BitVec 8) : (n8 x == n8 y) = weq x y := by
  unfold weq; rw [Bool.eq_iff_iff]; simp only [beq_iff_eq]; exact ⟨n8_inj, fun h => by rw [h]⟩
@[go_sem] theorem eq32 (x y : BitVec 32) : (n32 x == n32 y) = weq x y := by
  unfold weq; rw [Bool.eq_iff_iff]; simp only [beq_iff_eq]; exact ⟨n32_inj, fun h => by rw [h]⟩
@[go_sem] theorem eq64 (x y : BitVec 64) : (n64 x == n64 y) = weq x y := by
  unfold weq; rw [Bool.eq_iff_iff]; simp only [beq_iff_eq]; exact ⟨n64_inj, fun h => by rw [h]⟩

/-! Conversions -/
@[go_sem] theorem u32_n8 (x : BitVec 8) : IntKind.u32.wrap (n8 x) = n32 (wext 32 x) := by
  rw [IntKind.wrap_u32]; unfold wext n8 n32; rw [BitVec.toNat_setWidth]; have := x.isLt; omega
@[go_sem] theorem u64_n8 (x : BitVec 8) : IntKind.u64.wrap (n8 x) = n64 (wext 64 x) := by
  rw [IntKind.wrap_u64]; unfold wext n8 n64; rw [BitVec.toNat_setWidth]; have := x.isLt; omega
@[go_sem] theorem u64_n32 (x : BitVec 32) : IntKind.u64.wrap (n32 x) = n64 (wext 64 x) := by
  rw [IntKind.wrap_u64]; unfold wext n32 n64; rw [BitVec.toNat_setWidth]; have := x.isLt; omega
@[go_sem] theorem u32_n64 (x : BitVec 64) : IntKind.u32.wrap (n64 x) = n32 (wext 32 x) := by
  rw [IntKind.wrap_u32]; unfold wext n32 n64; rw [BitVec.toNat_setWidth]; omega
@[go_sem] theorem u8_n32 (x : BitVec 32) : IntKind.u8.wrap (n32 x) = n8 (wext 8 x) := by
  rw [IntKind.wrap_u8]; unfold wext n32 n8; rw [BitVec.toNat_setWidth]; omega
@[go_sem] theorem u8_n64 (x : BitVec 64) : IntKind.u8.wrap (n64 x) = n8 (wext 8 x) := by
  rw [IntKind.wrap_u8]; unfold wext n64 n8; rw [BitVec.toNat_setWidth]; omega
@[go_sem] theorem u8_n8 (x : BitVec 8) : IntKind.u8.wrap (n8 x) = n8 x := by
  rw [IntKind.wrap_u8]; have := n8_lo x; have := n8_hi x; omega
@[go_sem] theorem u32_n32 (x : BitVec 32) : IntKind.u32.wrap (n32 x) = n32 x := by
  rw [IntKind.wrap_u32]; have := n32_lo x; have := n32_hi x; omega
@[go_sem] theorem u64_n64 (x : BitVec 64) : IntKind.u64.wrap (n64 x) = n64 x := by
  rw [IntKind.wrap_u64]; have := n64_lo x; have := n64_hi x; omega

/-! Bits -/
theorem ofInt_n8 (x : BitVec 8) : BitVec.ofInt 8 (n8 x) = x := by
  unfold n8; rw [BitVec.ofInt_natCast]; simp
theorem ofInt_n32 (x : BitVec 32) : BitVec.ofInt 32 (n32 x) = x := by
  unfold n32; rw [BitVec.ofInt_natCast]; simp
theorem ofInt_n64 (x : BitVec 64) : BitVec.ofInt 64 (n64 x) = x := by
  unfold n64; rw [BitVec.ofInt_natCast]; simp

theorem b8 (a b : Int) (x y : BitVec 8) (ha : BitVec.ofInt 8 a = x) (hb : BitVec.ofInt 8 b = y) :
    bits .and .u8 a b = n8 (x &&& y) ∧ bits .or .u8 a b = n8 (x ||| y) ∧ bits .xor .u8 a b = n8 (x ^^^ y) := by
  subst ha; subst hb
  exact ⟨u8_n8 _, u8_n8 _, u8_n8 _⟩
theorem b32 (a b : Int) (x y : BitVec 32) (ha : BitVec.ofInt 32 a = x) (hb : BitVec.ofInt 32 b = y) :
    bits .and .u32 a b = n32 (x &&& y) ∧ bits .or .u32 a b = n32 (x ||| y) ∧ bits .xor .u32 a b = n32 (x ^^^ y) := by
  subst ha; subst hb
  exact ⟨u32_n32 _, u32_n32 _, u32_n32 _⟩
theorem b64 (a b : Int) (x y : BitVec 64) (ha : BitVec.ofInt 64 a = x) (hb : BitVec.ofInt 64 b = y) :
    bits .and .u64 a b = n64 (x &&& y) ∧ bits .or .u64 a b = n64 (x ||| y) ∧ bits .xor .u64 a b = n64 (x ^^^ y) := by
  subst ha; subst hb
  exact ⟨u64_n64 _, u64_n64 _, u64_n64 _⟩

@[go_sem] theorem and32 (x y : BitVec 32) : bits .and .u32 (n32 x) (n32 y) = n32 (wand x y) := (b32 _ _ x y (ofInt_n32 x) (ofInt_n32 y)).1
@[go_sem] theorem or32 (x y : BitVec 32) : bits .or .u32 (n32 x) (n32 y) = n32 (wor x y) := (b32 _ _ x y (ofInt_n32 x) (ofInt_n32 y)).2.1
@[go_sem] theorem xor32 (x y : BitVec 32) : bits .xor .u32 (n32 x) (n32 y) = n32 (wxor x y) := (b32 _ _ x y (ofInt_n32 x) (ofInt_n32 y)).2.2
@[go_sem] theorem and64 (x y : BitVec 64) : bits .and .u64 (n64 x) (n64 y) = n64 (wand x y) := (b64 _ _ x y (ofInt_n64 x) (ofInt_n64 y)).1
@[go_sem] theorem or64 (x y : BitVec 64) : bits .or .u64 (n64 x) (n64 y) = n64 (wor x y) := (b64 _ _ x y (ofInt_n64 x) (ofInt_n64 y)).2.1
@[go_sem] theorem xor64 (x y : BitVec 64) : bits .xor .u64 (n64 x) (n64 y) = n64 (wxor x y) := (b64 _ _ x y (ofInt_n64 x) (ofInt_n64 y)).2.2
@[go_sem] theorem and8 (x y : BitVec 8) : bits .and .u8 (n8 x) (n8 y) = n8 (wand x y) := (b8 _ _ x y (ofInt_n8 x) (ofInt_n8 y)).1
@[go_sem] theorem or8 (x y : BitVec 8) : bits .or .u8 (n8 x) (n8 y) = n8 (wor x y) := (b8 _ _ x y (ofInt_n8 x) (ofInt_n8 y)).2.1
@[go_sem] theorem xor8 (x y : BitVec 8) : bits .xor .u8 (n8 x) (n8 y) = n8 (wxor x y) := (b8 _ _ x y (ofInt_n8 x) (ofInt_n8 y)).2.2

/-! Shifts by the counts that the code uses -/
theorem shl32 (x : BitVec 32) (n : Nat) : IntKind.u32.wrap (n32 x * ((2 ^ n : Nat) : Int)) = n32 (x <<< n) := by
  rw [IntKind.wrap_u32]; unfold n32
  rw [BitVec.toNat_shiftLeft, Nat.shiftLeft_eq]
  rw [← Int.natCast_mul]
  omega
theorem shl64 (x : BitVec 64) (n : Nat) : IntKind.u64.wrap (n64 x * ((2 ^ n : Nat) : Int)) = n64 (x <<< n) := by
  rw [IntKind.wrap_u64]; unfold n64
  rw [BitVec.toNat_shiftLeft, Nat.shiftLeft_eq]
  rw [← Int.natCast_mul]
  omega
theorem shr32 (x : BitVec 32) (n : Nat) : n32 x / ((2 ^ n : Nat) : Int) = n32 (x >>> n) := by
  unfold n32
  rw [BitVec.toNat_ushiftRight, Nat.shiftRight_eq_div_pow]
  exact (Int.natCast_ediv _ _).symm
theorem shr64 (x : BitVec 64) (n : Nat) : n64 x / ((2 ^ n : Nat) : Int) = n64 (x >>> n) := by
  unfold n64
  rw [BitVec.toNat_ushiftRight, Nat.shiftRight_eq_div_pow]
  exact (Int.natCast_ediv _ _).symm
theorem shl8 (x : BitVec 8) (n : Nat) : IntKind.u8.wrap (n8 x * ((2 ^ n : Nat) : Int)) = n8 (x <<< n) := by
  rw [IntKind.wrap_u8]; unfold n8
  rw [BitVec.toNat_shiftLeft, Nat.shiftLeft_eq]
  rw [← Int.natCast_mul]
  omega
theorem shr8 (x : BitVec 8) (n : Nat) : n8 x / ((2 ^ n : Nat) : Int) = n8 (x >>> n) := by
  unfold n8
  rw [BitVec.toNat_ushiftRight, Nat.shiftRight_eq_div_pow]
  exact (Int.natCast_ediv _ _).symm

@[go_sem] theorem shl32_8 (x : BitVec 32) : IntKind.u32.wrap (n32 x * 256) = n32 (wshl x 8) := shl32 x 8
@[go_sem] theorem shl32_16 (x : BitVec 32) : IntKind.u32.wrap (n32 x * 65536) = n32 (wshl x 16) := shl32 x 16
@[go_sem] theorem shl32_24 (x : BitVec 32) : IntKind.u32.wrap (n32 x * 16777216) = n32 (wshl x 24) := shl32 x 24
@[go_sem] theorem shr32_8 (x : BitVec 32) : n32 x / 256 = n32 (wshr x 8) := shr32 x 8
@[go_sem] theorem shr32_16 (x : BitVec 32) : n32 x / 65536 = n32 (wshr x 16) := shr32 x 16
@[go_sem] theorem shr32_24 (x : BitVec 32) : n32 x / 16777216 = n32 (wshr x 24) := shr32 x 24
@[go_sem] theorem shl64_1 (x : BitVec 64) : IntKind.u64.wrap (n64 x * 2) = n64 (wshl x 1) := shl64 x 1
@[go_sem] theorem shl64_32 (x : BitVec 64) : IntKind.u64.wrap (n64 x * 4294967296) = n64 (wshl x 32) := shl64 x 32
@[go_sem] theorem shl64_57 (x : BitVec 64) : IntKind.u64.wrap (n64 x * 144115188075855872) = n64 (wshl x 57) := shl64 x 57
@[go_sem] theorem shl64_62 (x : BitVec 64) : IntKind.u64.wrap (n64 x * 4611686018427387904) = n64 (wshl x 62) := shl64 x 62
@[go_sem] theorem shl64_63 (x : BitVec 64) : IntKind.u64.wrap (n64 x * 9223372036854775808) = n64 (wshl x 63) := shl64 x 63
@[go_sem] theorem shr64_1 (x : BitVec 64) : n64 x / 2 = n64 (wshr x 1) := shr64 x 1
@[go_sem] theorem shr64_2 (x : BitVec 64) : n64 x / 4 = n64 (wshr x 2) := shr64 x 2
@[go_sem] theorem shr64_7 (x : BitVec 64) : n64 x / 128 = n64 (wshr x 7) := shr64 x 7
@[go_sem] theorem shr64_32 (x : BitVec 64) : n64 x / 4294967296 = n64 (wshr x 32) := shr64 x 32
@[go_sem] theorem shr64_63 (x : BitVec 64) : n64 x / 9223372036854775808 = n64 (wshr x 63) := shr64 x 63

/-! Products -/
@[go_sem] theorem mul64 (x y : BitVec 64) : IntKind.u64.wrap (n64 x * n64 y) = n64 (wmul x y) := by
  rw [IntKind.wrap_u64]; unfold wmul n64; rw [BitVec.toNat_mul, ← Int.natCast_mul]; omega

/-! The masks of the carryless multiplication -/
@[go_sem] theorem msk32_0 (x : BitVec 32) : bits .and .u32 (n32 x) 286331153 = n32 (wand x 0x11111111#32) := (b32 _ _ x _ (ofInt_n32 x) rfl).1
@[go_sem] theorem msk32_1 (x : BitVec 32) : bits .and .u32 (n32 x) 572662306 = n32 (wand x 0x22222222#32) := (b32 _ _ x _ (ofInt_n32 x) rfl).1
@[go_sem] theorem msk32_2 (x : BitVec 32) : bits .and .u32 (n32 x) 1145324612 = n32 (wand x 0x44444444#32) := (b32 _ _ x _ (ofInt_n32 x) rfl).1
@[go_sem] theorem msk32_3 (x : BitVec 32) : bits .and .u32 (n32 x) 2290649224 = n32 (wand x 0x88888888#32) := (b32 _ _ x _ (ofInt_n32 x) rfl).1
@[go_sem] theorem msk64_0 (x : BitVec 64) : bits .and .u64 (n64 x) 1229782938247303441 = n64 (wand x 0x1111111111111111#64) := (b64 _ _ x _ (ofInt_n64 x) rfl).1
@[go_sem] theorem msk64_1 (x : BitVec 64) : bits .and .u64 (n64 x) 2459565876494606882 = n64 (wand x 0x2222222222222222#64) := (b64 _ _ x _ (ofInt_n64 x) rfl).1
@[go_sem] theorem msk64_2 (x : BitVec 64) : bits .and .u64 (n64 x) 4919131752989213764 = n64 (wand x 0x4444444444444444#64) := (b64 _ _ x _ (ofInt_n64 x) rfl).1
@[go_sem] theorem msk64_3 (x : BitVec 64) : bits .and .u64 (n64 x) 9838263505978427528 = n64 (wand x 0x8888888888888888#64) := (b64 _ _ x _ (ofInt_n64 x) rfl).1

/-! Shifts by a variable count; a bit -/
theorem two_pow_cast (k : Nat) : ((2 : Int) ^ k) = ((2 ^ k : Nat) : Int) := by simp
@[go_sem] theorem shr32_k (x : BitVec 32) (k : Nat) : n32 x / 2 ^ k = n32 (wshr x k) := by rw [two_pow_cast]; exact shr32 x k
@[go_sem] theorem shr8_k (x : BitVec 8) (k : Nat) : n8 x / 2 ^ k = n8 (wshr x k) := by rw [two_pow_cast]; exact shr8 x k
@[go_sem] theorem shr64_k (x : BitVec 64) (k : Nat) : n64 x / 2 ^ k = n64 (wshr x k) := by rw [two_pow_cast]; exact shr64 x k
@[go_sem] theorem shl64_k (x : BitVec 64) (k : Nat) : IntKind.u64.wrap (n64 x * 2 ^ k) = n64 (wshl x k) := by rw [two_pow_cast]; exact shl64 x k
@[go_sem] theorem shl32_k (x : BitVec 32) (k : Nat) : IntKind.u32.wrap (n32 x * 2 ^ k) = n32 (wshl x k) := by rw [two_pow_cast]; exact shl32 x k
@[go_sem] theorem shl8_k (x : BitVec 8) (k : Nat) : IntKind.u8.wrap (n8 x * 2 ^ k) = n8 (wshl x k) := by rw [two_pow_cast]; exact shl8 x k
@[go_sem] theorem and1_32 (x : BitVec 32) : bits .and .u32 (n32 x) 1 = n32 (wand x 1#32) := (b32 _ _ x _ (ofInt_n32 x) rfl).1
@[go_sem] theorem and1_8 (x : BitVec 8) : bits .and .u8 (n8 x) 1 = n8 (wand x 1#8) := (b8 _ _ x _ (ofInt_n8 x) rfl).1
theorem bit_mod (n k : Nat) : (n / 2 ^ k % 2 = 1) = (n.testBit k = true) := by
  rw [Nat.testBit_eq_decide_div_mod_eq]; simp
@[go_sem] theorem bit32 (x : BitVec 32) (k : Nat) : (n32 (wand (wshr x k) 1#32) == 1) = x.getLsbD k := by
  unfold n32 wand wshr
  rw [Bool.eq_iff_iff, BitVec.toNat_and, BitVec.toNat_ushiftRight, Nat.shiftRight_eq_div_pow]
  have e : (1#32).toNat = 1 := rfl
  rw [e, Nat.and_one_is_mod, beq_iff_eq, BitVec.getLsbD, ← bit_mod]
  omega
@[go_sem] theorem bit8 (x : BitVec 8) (k : Nat) : (n8 (wand (wshr x k) 1#8) == 1) = x.getLsbD k := by
  unfold n8 wand wshr
  rw [Bool.eq_iff_iff, BitVec.toNat_and, BitVec.toNat_ushiftRight, Nat.shiftRight_eq_div_pow]
  have e : (1#8).toNat = 1 := rfl
  rw [e, Nat.and_one_is_mod, beq_iff_eq, BitVec.getLsbD, ← bit_mod]
  omega

@[go_sem] theorem shr128_k (k : Nat) : (128 : Int) / 2 ^ k = n8 (wshr 128#8 k) := by
  have h := shr8_k 128#8 k
  have e : n8 128#8 = 128 := by decide
  rwa [e] at h
@[go_sem] theorem xor225 (x : BitVec 8) : bits .xor .u8 (n8 x) 225 = n8 (wxor x 225#8) := (b8 _ _ x _ (ofInt_n8 x) rfl).2.2

/-! Small counts -/
@[go_sem] theorem i64w_0 : IntKind.i64.wrap 0 = 0 := by decide
@[go_sem] theorem i64w_1 : IntKind.i64.wrap 1 = 1 := by decide
@[go_sem] theorem i64w_2 : IntKind.i64.wrap 2 = 2 := by decide
@[go_sem] theorem i64w_3 : IntKind.i64.wrap 3 = 3 := by decide
@[go_sem] theorem i64w_4 : IntKind.i64.wrap 4 = 4 := by decide
@[go_sem] theorem i64w_5 : IntKind.i64.wrap 5 = 5 := by decide
@[go_sem] theorem i64w_6 : IntKind.i64.wrap 6 = 6 := by decide
@[go_sem] theorem i64w_7 : IntKind.i64.wrap 7 = 7 := by decide
@[go_sem] theorem i64w_8 : IntKind.i64.wrap 8 = 8 := by decide
@[go_sem] theorem i64w_9 : IntKind.i64.wrap 9 = 9 := by decide
@[go_sem] theorem i64w_10 : IntKind.i64.wrap 10 = 10 := by decide
@[go_sem] theorem i64w_11 : IntKind.i64.wrap 11 = 11 := by decide
@[go_sem] theorem i64w_12 : IntKind.i64.wrap 12 = 12 := by decide
@[go_sem] theorem i64w_13 : IntKind.i64.wrap 13 = 13 := by decide
@[go_sem] theorem i64w_14 : IntKind.i64.wrap 14 = 14 := by decide
@[go_sem] theorem i64w_15 : IntKind.i64.wrap 15 = 15 := by decide
@[go_sem] theorem i64w_16 : IntKind.i64.wrap 16 = 16 := by decide

end Go.Proofs.YtfcdldcekdbckacDoor
