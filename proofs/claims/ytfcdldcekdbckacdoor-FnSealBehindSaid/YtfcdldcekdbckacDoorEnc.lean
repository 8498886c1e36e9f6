/- The encryption of a block under whatever tables: the walk of encryptBlockGeneric, and its callers. -/
import Derived.Test.YtfcdldcekdbckacDoorTab
import Derived.IntWalk
namespace Go.Proofs.YtfcdldcekdbckacDoor
open Go Go.RowKit Gf

structure St where
  a : BitVec 32
  b : BitVec 32
  c : BitVec 32
  d : BitVec 32
def ix (x : BitVec 32) (n : Nat) : Nat := (wext 8 (wshr x n)).toNat
/-- A word of a middle round. -/
def mid (T : Tab) (k a b c d : BitVec 32) : BitVec 32 :=
  wxor (wxor (wxor (wxor k (T.e0 (wext 8 (wshr a 24)).toNat)) (T.e1 (wext 8 (wshr b 16)).toNat)) (T.e2 (wext 8 (wshr c 8)).toNat)) (T.e3 (wext 8 d).toNat)
/-- A middle round with the words from k on. -/
def midS (T : Tab) (K : Nat → BitVec 32) (k : Nat) (s : St) : St :=
  ⟨mid T (K k) s.a s.b s.c s.d, mid T (K (k + 1)) s.b s.c s.d s.a, mid T (K (k + 2)) s.c s.d s.a s.b, mid T (K (k + 3)) s.d s.a s.b s.c⟩
def midN (T : Tab) (K : Nat → BitVec 32) (s : St) : Nat → St
  | 0 => s
  | n + 1 => midS T K (4 * (n + 1)) (midN T K s n)
/-- A word of the last round. -/
def lastW (T : Tab) (a b c d : BitVec 32) : BitVec 32 :=
  wor (wor (wor (wshl (wext 32 (T.sb (wshr a 24).toNat)) 24) (wshl (wext 32 (T.sb (wand (wshr b 16) 255#32).toNat)) 16)) (wshl (wext 32 (T.sb (wand (wshr c 8) 255#32).toNat)) 8)) (wext 32 (T.sb (wand d 255#32).toNat))
def lastS (T : Tab) (K : Nat → BitVec 32) (k : Nat) (s : St) : St :=
  ⟨wxor (lastW T s.a s.b s.c s.d) (K k), wxor (lastW T s.b s.c s.d s.a) (K (k + 1)), wxor (lastW T s.c s.d s.a s.b) (K (k + 2)), wxor (lastW T s.d s.a s.b s.c) (K (k + 3))⟩
def wordAt (x : BitVec 128) (i : Nat) : BitVec 32 := be32 (byte x (4 * i)) (byte x (4 * i + 1)) (byte x (4 * i + 2)) (byte x (4 * i + 3))
def start (K : Nat → BitVec 32) (x : BitVec 128) : St := ⟨wxor (wordAt x 0) (K 0), wxor (wordAt x 1) (K 1), wxor (wordAt x 2) (K 2), wxor (wordAt x 3) (K 3)⟩
def encS (T : Tab) (r : Nat) (K : Nat → BitVec 32) (x : BitVec 128) : St := lastS T K (4 * r) (midN T K (start K x) (r - 1))
def bytesS (s : St) : List (BitVec 8) := b4 s.a ++ b4 s.b ++ b4 s.c ++ b4 s.d
/-- The block that x is encrypted to. -/
def encB (T : Tab) (r : Nat) (K : Nat → BitVec 32) (x : BitVec 128) : BitVec 128 := ofBytes fun i => (bytesS (encS T r K x)).getD i 0#8
theorem bytesOf_of (l : List (BitVec 8)) (h : l.length = 16) : bytesOf (ofBytes fun i => l.getD i 0#8) = l := by
  refine List.ext_getElem? fun i => ?_
  by_cases hi : i < 16
  · rw [bytesOf_get _ i hi, byte_of _ i hi, List.getD_eq_getElem?_getD, List.getElem?_eq_getElem (by omega)]; rfl
  · rw [List.getElem?_eq_none (by rw [bytesOf_length]; omega), List.getElem?_eq_none (by omega)]
theorem encB_bytes (T : Tab) (r : Nat) (K : Nat → BitVec 32) (x : BitVec 128) : bytesOf (encB T r K x) = bytesS (encS T r K x) := bytesOf_of _ rfl

/-- Sixteen bytes of a block in memory. -/
def RdBlk (w : World) (S o : Nat) (x : BitVec 128) : Prop := ∀ i, i < 16 → w.cell? ⟨S, o + i, none⟩ = some (.int .u8 (n8 (byte x i)))
def tOf (r : Nat) (s : BitVec 32) : BitVec 32 := if r = 0 then 0#32 else s
theorem put4 (cs : Array Value) (o : Nat) (a b c d : BitVec 32) : putL (putL (putL (putL cs o (b4 a)) (o + 4) (b4 b)) (o + 8) (b4 c)) (o + 12) (b4 d) = putL cs o (bytesS ⟨a, b, c, d⟩) := by
  have h1 := putL_append cs o (b4 a) (b4 b)
  have h2 := putL_append cs o (b4 a ++ b4 b) (b4 c)
  have h3 := putL_append cs o (b4 a ++ b4 b ++ b4 c) (b4 d)
  rw [show o + 4 = o + (b4 a).length from rfl, h1, show o + 8 = o + (b4 a ++ b4 b).length from rfl, h2, show o + 12 = o + (b4 a ++ b4 b ++ b4 c).length from rfl, h3]
  rfl
theorem tOf_succ (r : Nat) (s : BitVec 32) : tOf (r + 1) s = s := if_neg (by omega)

set_option maxRecDepth 100000 in
set_option maxHeartbeats 8000000 in
theorem encG_any (T : Tab) (B r : Nat) (K : Nat → BitVec 32) (D od dn dc S os sn sc : Nat) (cs : Array Value) (tD : TypeId) (x : BitVec 128) (w : World) (hT : TabAt T w) (hK : KeyAt w B r K) (hr1 : 2 ≤ r) (hr2 : r ≤ 14)
    (hD : objAt w D = some (.cells cs tD (0, 0))) (hroom : ByteRoom cs od 16) (hdn : 16 ≤ dn) (hdc : dn ≤ dc) (hsc : sn ≤ sc) (hdn2 : (dn : Int) ≤ 9223372036854775807) (hS : RdBlk w S os x) (hsn : 16 ≤ sn) (hsn2 : (sn : Int) ≤ 9223372036854775807) :
    Calls Tryd.prog 41 #[.pointer (some ⟨B, 0, none⟩), .slice (some ⟨D, od, none⟩) dn dc, .slice (some ⟨S, os, none⟩) sn sc] w
      fun e w' => e = .returned (.tuple #[]) ∧ objAt w' D = some (.cells (putL cs od (bytesOf (encB T r K x))) tD (0, 0)) ∧ Keeps D w w' := by
  have h15 := hS 15 (by decide)
  have hr0 := hK.zero
  have k15 : (15 : Int) < sn := by omega
  have kc : (16 : Int) ≤ sc := by omega
  have kw0 := hK.word 0 (by decide)
  have kw1 := hK.word 1 (by decide)
  have kw2 := hK.word 2 (by decide)
  have kw3 := hK.word 3 (by decide)
  have q0 := abe_any S os 4 sc _ _ _ _ w (by decide) (by decide) (by simpa using hS 0 (by decide)) (hS 1 (by decide)) (hS 2 (by decide)) (hS 3 (by decide))
  have q1 := fun m => abe_any S (os + 4) 4 (sc - 4) _ _ _ _ (w.drewN m) (by decide) (by decide) (by simpa using hS 4 (by decide)) (hS 5 (by decide)) (hS 6 (by decide)) (hS 7 (by decide))
  have q2 := fun m => abe_any S (os + 8) 4 (sc - 8) _ _ _ _ (w.drewN m) (by decide) (by decide) (by simpa using hS 8 (by decide)) (hS 9 (by decide)) (hS 10 (by decide)) (hS 11 (by decide))
  have q3 := fun m => abe_any S (os + 12) 4 (sc - 12) _ _ _ _ (w.drewN m) (by decide) (by decide) (by simpa using hS 12 (by decide)) (hS 13 (by decide)) (hS 14 (by decide)) (hS 15 (by decide))
  have HT := Lib.hid hT
  have HK := Lib.hid hK
  have HD := Lib.hid hD
  have HR := Lib.hid hroom
  clear hT hK hD hroom hS
  go_enter Tryd.func41, Tryd.ntmps41
  go_wp2_with (first
    | (go_at_call 46; (with_reducible refine (achk_any _).mono ?_); rintro e w1 ⟨rfl, hw1⟩; replace hw1 := hw1.symm; subst hw1)
    | (go_at_call 47; (with_reducible refine q0.mono ?_); rintro e w1 ⟨rfl, m0, rfl⟩; clear q0)
    | (go_at_call 47; (with_reducible refine (q1 _).mono ?_); rintro e w1 ⟨rfl, m1, rfl⟩; clear q1)
    | (go_at_call 47; (with_reducible refine (q2 _).mono ?_); rintro e w1 ⟨rfl, m2, rfl⟩; clear q2)
    | (go_at_call 47; (with_reducible refine (q3 _).mono ?_); rintro e w1 ⟨rfl, m3, rfl⟩; clear q3))
  generalize hM0 : m0 + m1 + m2 + m3 = m
  clear hM0 kw0 kw1 kw2 kw3 h15 k15
  have HS := Lib.hid (show start K x = ⟨wxor (be32 (byte x 0) (byte x 1) (byte x 2) (byte x 3)) (K 0), wxor (be32 (byte x 4) (byte x 5) (byte x 6) (byte x 7)) (K 1), wxor (be32 (byte x 8) (byte x 9) (byte x 10) (byte x 11)) (K 2), wxor (be32 (byte x 12) (byte x 13) (byte x 14) (byte x 15)) (K 3)⟩ from rfl)
  go_loopw [7, 8, 9, 10, 11, 12, 13, 14, 15, 16] (fun s0 s1 s2 s3 k t0 t1 t2 t3 i wr => ∃ j n kk : Nat, j ≤ r - 1 ∧ kk = 4 * (j + 1) ∧ i = .int .i64 (j : Int) ∧ k = .int .i64 (kk : Int) ∧ wr = w.drewN n ∧
      s0 = .int .u32 (n32 (midN T K (start K x) j).a) ∧ s1 = .int .u32 (n32 (midN T K (start K x) j).b) ∧ s2 = .int .u32 (n32 (midN T K (start K x) j).c) ∧ s3 = .int .u32 (n32 (midN T K (start K x) j).d) ∧
      t0 = .int .u32 (n32 (tOf j (midN T K (start K x) j).a)) ∧ t1 = .int .u32 (n32 (tOf j (midN T K (start K x) j).b)) ∧ t2 = .int .u32 (n32 (tOf j (midN T K (start K x) j).c)) ∧ t3 = .int .u32 (n32 (tOf j (midN T K (start K x) j).d)))
    (fun _ _ _ _ _ _ _ _ _ i _ => r - 1 - (intOf i).toNat)
  case atStart => exact ⟨0, m, 4, by omega, rfl, rfl, rfl, rfl, by rw [midN, HS.out], by rw [midN, HS.out], by rw [midN, HS.out], by rw [midN, HS.out], rfl, rfl, rfl, rfl⟩
  case round =>
    obtain ⟨j, n, kk, hj, hkk, rfl, rfl, rfl, rfl, rfl, rfl, rfl, rfl, rfl, rfl, rfl⟩ := hrel
    have HM := Lib.hid (show midN T K (start K x) (j + 1) = midS T K kk (midN T K (start K x) j) by rw [hkk]; rfl)
    generalize hs : midN T K (start K x) j = s at HM ⊢
    have HSS := Lib.hid hs
    clear hs
    obtain ⟨sa, sb, sc', sd⟩ := s
    dsimp only
    have e0 : IntKind.i64.wrap ((r : Int) - 1) = ((r - 1 : Nat) : Int) := by rw [IntKind.wrap_i64]; omega
    by_cases hlt : j < r - 1
    · have hlt' : (j : Int) < ((r - 1 : Nat) : Int) := by omega
      have hE0 := HT.out.e0.byte
      have hE1 := HT.out.e1.byte
      have hE2 := HT.out.e2.byte
      have hE3 := HT.out.e3.byte
      have hk0 := HK.out.word kk (by omega)
      have hk1 := HK.out.word (kk + 1) (by omega)
      have hk2 := HK.out.word (kk + 2) (by omega)
      have hk3 := HK.out.word (kk + 3) (by omega)
      have b0 : (kk : Int) < 60 := by omega
      have b1 : (kk : Int) + 1 < 60 := by omega
      have b2 : (kk : Int) + 2 < 60 := by omega
      have b3 : (kk : Int) + 3 < 60 := by omega
      have a1 : 0 ≤ (kk : Int) + 1 := by omega
      have a2 : 0 ≤ (kk : Int) + 2 := by omega
      have a3 : 0 ≤ (kk : Int) + 3 := by omega
      have c1 : IntKind.i64.wrap ((kk : Int) + 1) = (kk : Int) + 1 := IntWalk.i64_in _ (by omega)
      have c2 : IntKind.i64.wrap ((kk : Int) + 2) = (kk : Int) + 2 := IntWalk.i64_in _ (by omega)
      have c3 : IntKind.i64.wrap ((kk : Int) + 3) = (kk : Int) + 3 := IntWalk.i64_in _ (by omega)
      have c4 : IntKind.i64.wrap ((kk : Int) + 4) = (kk : Int) + 4 := IntWalk.i64_in _ (by omega)
      have d1 : ((kk : Int) + 1).toNat = kk + 1 := by omega
      have d2 : ((kk : Int) + 2).toNat = kk + 2 := by omega
      have d3 : ((kk : Int) + 3).toNat = kk + 3 := by omega
      have HKK := Lib.hid hkk
      clear hkk
      go_wp2
      go_quiet (fail)
      go_wp2
      go_quiet (fail)
      go_wp2
      go_quiet (fail)
      go_wp2
      go_quiet (fail)
      go_wp2
      go_roundw
      case rel =>
        refine ⟨j + 1, _, kk + 4, by omega, by rw [HKK.out]; omega, by go_num, by go_num, rfl, ?_, ?_, ?_, ?_, ?_, ?_, ?_, ?_⟩ <;> first | (rw [HM.out]; rfl) | (rw [HM.out, tOf_succ]; rfl)
      case measure => simp [intOf]; omega
    · have hlt' : ¬ ((j : Int) < ((r - 1 : Nat) : Int)) := by omega
      obtain rfl : j = r - 1 := by omega
      have hSL := HT.out.sb.low
      have hST := HT.out.sb.top
      have hk0 := HK.out.word kk (by omega)
      have hk1 := HK.out.word (kk + 1) (by omega)
      have hk2 := HK.out.word (kk + 2) (by omega)
      have hk3 := HK.out.word (kk + 3) (by omega)
      have b0 : (kk : Int) < 60 := by omega
      have b1 : (kk : Int) + 1 < 60 := by omega
      have b2 : (kk : Int) + 2 < 60 := by omega
      have b3 : (kk : Int) + 3 < 60 := by omega
      have z : tOf (r - 1) sa = sa ∧ tOf (r - 1) sb = sb ∧ tOf (r - 1) sc' = sc' ∧ tOf (r - 1) sd = sd := by unfold tOf; rw [if_neg (by omega), if_neg (by omega), if_neg (by omega), if_neg (by omega)]; exact ⟨rfl, rfl, rfl, rfl⟩
      obtain ⟨z1, z2, z3, z4⟩ := z
      rw [z1, z2, z3, z4]
      obtain ⟨y15, r15⟩ := HR.out.get 15 (by decide)
      have o15 := (objAt_cell HD.out (od + 15)).trans r15
      have k15 : (15 : Int) < dn := by omega
      have kc' : (16 : Int) ≤ dc := by omega
      have HKK := Lib.hid hkk
      clear hkk z1 z2 z3 z4 r15
      go_wp2
      go_quiet (fail)
      go_wp2
      go_quiet (fail)
      go_wp2
      go_quiet (fail)
      go_wp2
      go_quiet (fail)
      have R0 := HR.out.sub (p := od) (m := 4) (by omega) (by omega)
      have R1 := HR.out.sub (p := od + 4) (m := 4) (by omega) (by omega)
      have R2 := HR.out.sub (p := od + 8) (m := 4) (by omega) (by omega)
      have R3 := HR.out.sub (p := od + 12) (m := 4) (by omega) (by omega)
      have HR0 := Lib.hid R0
      have HR1 := Lib.hid R1
      have HR2 := Lib.hid R2
      have HR3 := Lib.hid R3
      clear R0 R1 R2 R3
      go_wp2_with (first
        | (go_at_call 51; (with_reducible refine (aput_any D od 4 _ cs _ tD _ HR0.out (by decide) (by decide) (oa_drewN HD.out _)).mono ?_); rintro e w1 ⟨rfl, ho1, hp1⟩; have HO1 := Lib.hid ho1; have HK1 := Lib.hid hp1; clear ho1 hp1)
        | (go_at_call 51; (with_reducible refine (aput_any D (od + 4) 4 _ _ _ tD _ HR1.out.put (by decide) (by decide) HO1.out).mono ?_); rintro e w2 ⟨rfl, ho2, hp2⟩; have HO2 := Lib.hid ho2; have HK2 := Lib.hid hp2; clear ho2 hp2)
        | (go_at_call 51; (with_reducible refine (aput_any D (od + 8) 4 _ _ _ tD _ HR2.out.put.put (by decide) (by decide) HO2.out).mono ?_); rintro e w3 ⟨rfl, ho3, hp3⟩; have HO3 := Lib.hid ho3; have HK3 := Lib.hid hp3; clear ho3 hp3)
        | (go_at_call 51; (with_reducible refine (aput_any D (od + 12) 4 _ _ _ tD _ HR3.out.put.put.put (by decide) (by decide) HO3.out).mono ?_); rintro e w4 ⟨rfl, ho4, hp4⟩; have HO4 := Lib.hid ho4; have HK4 := Lib.hid hp4; clear ho4 hp4))
      refine bodyPost_end (v := .tuple #[]) (by simp [results, Tryd.results41, go_sem]) rfl ⟨rfl, ?_, ?_⟩
      · rw [HO4.out, put4, encB_bytes]
        unfold encS
        have e : 4 * r = kk := by rw [HKK.out]; omega
        rw [e, HSS.out]
        rfl
      · exact ((((keeps_drewN (Keeps.refl D w) _).trans HK1.out).trans HK2.out).trans HK3.out).trans HK4.out

theorem encK_any (T : Tab) (B r : Nat) (K : Nat → BitVec 32) (D od dn dc S os sn sc : Nat) (cs : Array Value) (tD : TypeId) (x : BitVec 128) (w : World) (hT : TabAt T w) (hK : KeyAt w B r K) (hr1 : 2 ≤ r) (hr2 : r ≤ 14)
    (hD : objAt w D = some (.cells cs tD (0, 0))) (hroom : ByteRoom cs od 16) (hdn : 16 ≤ dn) (hdc : dn ≤ dc) (hsc : sn ≤ sc) (hdn2 : (dn : Int) ≤ 9223372036854775807) (hS : RdBlk w S os x) (hsn : 16 ≤ sn) (hsn2 : (sn : Int) ≤ 9223372036854775807) :
    Calls Tryd.prog 34 #[.pointer (some ⟨B, 0, none⟩), .slice (some ⟨D, od, none⟩) dn dc, .slice (some ⟨S, os, none⟩) sn sc] w
      fun e w' => e = .returned (.tuple #[]) ∧ objAt w' D = some (.cells (putL cs od (bytesOf (encB T r K x))) tD (0, 0)) ∧ Keeps D w w' := by
  have g := encG_any T B r K D od dn dc S os sn sc cs tD x w hT hK hr1 hr2 hD hroom hdn hdc hsc hdn2 hS hsn hsn2
  clear hT hK hD hroom hS
  go_enter Tryd.func34, Tryd.ntmps34
  go_wp2_with (go_at_call 41; (with_reducible refine g.mono ?_); rintro e w1 ⟨rfl, ho, hk⟩; have HO := Lib.hid ho; have HK := Lib.hid hk; clear ho hk)
  exact bodyPost_end (v := .tuple #[]) (by simp [results, Tryd.results34, go_sem]) rfl ⟨rfl, HO.out, HK.out⟩
theorem encI_any (T : Tab) (B r : Nat) (K : Nat → BitVec 32) (D od dn dc S os sn sc : Nat) (cs : Array Value) (tD : TypeId) (x : BitVec 128) (w : World) (hT : TabAt T w) (hK : KeyAt w B r K) (hr1 : 2 ≤ r) (hr2 : r ≤ 14)
    (hD : objAt w D = some (.cells cs tD (0, 0))) (hroom : ByteRoom cs od 16) (hdn : 16 ≤ dn) (hdc : dn ≤ dc) (hsc : sn ≤ sc) (hdn2 : (dn : Int) ≤ 9223372036854775807) (hS : RdBlk w S os x) (hsn : 16 ≤ sn) (hsn2 : (sn : Int) ≤ 9223372036854775807) :
    Calls Tryd.prog 28 #[.pointer (some ⟨B, 0, none⟩), .slice (some ⟨D, od, none⟩) dn dc, .slice (some ⟨S, os, none⟩) sn sc] w
      fun e w' => e = .returned (.tuple #[]) ∧ objAt w' D = some (.cells (putL cs od (bytesOf (encB T r K x))) tD (0, 0)) ∧ Keeps D w w' := by
  have g := encK_any T B r K D od dn dc S os sn sc cs tD x w hT hK hr1 hr2 hD hroom hdn hdc hsc hdn2 hS hsn hsn2
  clear hT hK hD hroom hS
  go_enter Tryd.func28, Tryd.ntmps28
  go_wp2_with (go_at_call 34; (with_reducible refine g.mono ?_); rintro e w1 ⟨rfl, ho, hk⟩; have HO := Lib.hid ho; have HK := Lib.hid hk; clear ho hk)
  exact bodyPost_end (v := .tuple #[]) (by simp [results, Tryd.results28, go_sem]) rfl ⟨rfl, HO.out, HK.out⟩
end Go.Proofs.YtfcdldcekdbckacDoor
