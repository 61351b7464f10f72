/- Plain laws about Go's bit operations on whole numbers: bytes swapped, lengths rounded up to a multiple of four. -/
import Derived.Laws.BitsAllLaws
import Derived.WalkKit
namespace Go.Proofs.Ytbogknjgjbhagaa
open Go.RowKit

theorem and_m4 (x : Int) (h0 : 0 ≤ x) (h1 : x < 9223372036854775808) : bits .and .i64 x (-4) = x / 4 * 4 := by
  obtain ⟨n, rfl⟩ := Int.eq_ofNat_of_zero_le h0
  have e4 : (BitVec.ofInt 64 (-4)).toNat = 18446744073709551612 := by decide
  have ex : (BitVec.ofInt 64 (n : Int)).toNat = n := by
    rw [BitVec.ofInt_natCast, BitVec.toNat_ofNat]; exact Nat.mod_eq_of_lt (by omega)
  show IntKind.i64.wrap ((BitVec.ofInt 64 (n : Int) &&& BitVec.ofInt 64 (-4)).toNat : Nat) = _
  rw [BitVec.toNat_and, ex, e4, nat_hi64_2, IntKind.wrap_i64]
  omega

theorem swap16 (x : Int) (h0 : 0 ≤ x) (h1 : x < 65536) :
    bits .or .u16 (bits .and .u16 x 65280 / 256) (IntKind.u16.wrap (bits .and .u16 x 255 * 256)) = bits .or .u16 (IntKind.u16.wrap (x * 256)) (x / 256) := by
  obtain ⟨n, rfl⟩ := Int.eq_ofNat_of_zero_le h0
  have a1 : bits .and .u16 (n : Int) 65280 = ((n % 65536 / 256 * 256 : Nat) : Int) := by
    rw [u16_and _ _ (by omega) (by omega) (by omega) (by omega)]; simp only [Int.toNat_natCast, Int.reduceToNat]; rw [nat_hi16_8]
  have a2 : bits .and .u16 (n : Int) 255 = ((n % 256 : Nat) : Int) := by
    rw [u16_and _ _ (by omega) (by omega) (by omega) (by omega)]; simp only [Int.toNat_natCast, Int.reduceToNat]; rw [nat_mask8]
  rw [a1, a2, IntKind.wrap_u16, IntKind.wrap_u16]
  have e1 : ((n % 65536 / 256 * 256 : Nat) : Int) / 256 = ((n / 256 : Nat) : Int) := by omega
  have e2 : (((n % 256 : Nat) : Int) * 256) % 65536 = (((n % 256) * 256 : Nat) : Int) := by omega
  have e3 : ((n : Int) * 256) % 65536 = (((n % 256) * 256 : Nat) : Int) := by omega
  have e4 : (n : Int) / 256 = ((n / 256 : Nat) : Int) := by omega
  rw [e1, e2, e3, e4, u16_or_nat _ _ (by omega) (by omega), u16_or_nat _ _ (by omega) (by omega), Nat.or_comm]

theorem sw_g2 (n : Nat) : ((n % 16777216 / 65536 * 65536 : Nat) : Int) / 256 = ((n / 65536 % 256 * 256 : Nat) : Int) := by omega
theorem sw_g3 (n : Nat) : ((n % 65536 / 256 * 256 : Nat) : Int) * 256 % 4294967296 = ((n / 256 % 256 * 65536 : Nat) : Int) := by omega
theorem sw_g4 (n : Nat) : ((n % 256 : Nat) : Int) * 16777216 % 4294967296 = ((n % 256 * 16777216 : Nat) : Int) := by omega
theorem sw_g5 (n : Nat) : (n : Int) * 16777216 % 4294967296 = ((n % 256 * 16777216 : Nat) : Int) := by omega
theorem sw_g6 (n : Nat) : ((n * 256 % 4294967296 % 16777216 / 65536 * 65536 : Nat) : Int) = ((n / 256 % 256 * 65536 : Nat) : Int) := by omega
theorem sw_g7 (n : Nat) : ((n / 256 % 65536 / 256 * 256 : Nat) : Int) = ((n / 65536 % 256 * 256 : Nat) : Int) := by omega
theorem sw_g8 (n : Nat) : (n : Int) / 16777216 = ((n / 16777216 : Nat) : Int) := by omega
theorem sw_g1 (n : Nat) (h : (n : Int) < 4294967296) : ((n % 4294967296 / 16777216 * 16777216 : Nat) : Int) / 16777216 = ((n / 16777216 : Nat) : Int) := by omega
theorem sw_l1 (n : Nat) (h : (n : Int) < 4294967296) : n / 16777216 < 4294967296 := by omega
theorem sw_l2 (n : Nat) : n / 65536 % 256 * 256 < 4294967296 := by omega
theorem sw_l3 (n : Nat) : n / 256 % 256 * 65536 < 4294967296 := by omega
theorem sw_l4 (n : Nat) : n % 256 * 16777216 < 4294967296 := by omega
theorem sw_or32 (a b : Nat) (ha : a < 4294967296) (hb : b < 4294967296) : a ||| b < 4294967296 := by
  have := Nat.or_lt_two_pow (x := a) (y := b) (n := 32) (by omega) (by omega); omega
theorem sw_u32o (a b : Nat) (ha : a < 4294967296) (hb : b < 4294967296) : bits .or .u32 (a : Int) (b : Int) = ((a ||| b : Nat) : Int) := by
  rw [u32_or _ _ (by omega) (by omega) (by omega) (by omega)]; simp
theorem sw_u32a (a b : Nat) (ha : a < 4294967296) (hb : b < 4294967296) : bits .and .u32 (a : Int) (b : Int) = ((a &&& b : Nat) : Int) := by
  rw [u32_and _ _ (by omega) (by omega) (by omega) (by omega)]; simp
theorem sw_end (A B C D : Nat) (l1 : A < 4294967296) (l2 : B < 4294967296) (l3 : C < 4294967296) (l4 : D < 4294967296) :
    bits .or .u32 (bits .or .u32 (bits .or .u32 (A : Int) B) C) D = bits .or .u32 (bits .or .u32 (bits .or .u32 (D : Int) C) B) A := by
  rw [sw_u32o A B l1 l2, sw_u32o _ C (sw_or32 _ _ l1 l2) l3, sw_u32o _ D (sw_or32 _ _ (sw_or32 _ _ l1 l2) l3) l4,
    sw_u32o D C l4 l3, sw_u32o _ B (sw_or32 _ _ l4 l3) l2, sw_u32o _ A (sw_or32 _ _ (sw_or32 _ _ l4 l3) l2) l1]
  congr 1
  apply Nat.eq_of_testBit_eq
  intro i
  simp only [Nat.testBit_or]
  cases A.testBit i <;> cases B.testBit i <;> cases C.testBit i <;> cases D.testBit i <;> rfl
set_option maxRecDepth 100000 in
theorem swap32 (x : Int) (h0 : 0 ≤ x) (h1 : x < 4294967296) :
    bits .or .u32 (bits .or .u32 (bits .or .u32 (bits .and .u32 x 4278190080 / 16777216) (bits .and .u32 x 16711680 / 256)) ((bits .and .u32 x 65280 * 256) % 4294967296)) ((bits .and .u32 x 255 * 16777216) % 4294967296) =
    bits .or .u32 (bits .or .u32 (bits .or .u32 ((x * 16777216) % 4294967296) (bits .and .u32 ((x * 256) % 4294967296) 16711680)) (bits .and .u32 (x / 256) 65280)) (x / 16777216) := by
  obtain ⟨n, rfl⟩ := Int.eq_ofNat_of_zero_le h0
  have m24 : ∀ a : Nat, a &&& 4278190080 = a % 4294967296 / 16777216 * 16777216 := fun a => nat_hi32_24 a
  have m16 : ∀ a : Nat, a &&& 16711680 = a % 16777216 / 65536 * 65536 := fun a => nat_midmask 24 16 a (by decide)
  have m8 : ∀ a : Nat, a &&& 65280 = a % 65536 / 256 * 256 := fun a => nat_midmask 16 8 a (by decide)
  have a1 : bits .and .u32 (n : Int) 4278190080 = ((n % 4294967296 / 16777216 * 16777216 : Nat) : Int) := by
    rw [show (4278190080 : Int) = ((4278190080 : Nat) : Int) from rfl, sw_u32a _ _ (by omega) (by omega), m24]
  have a2 : bits .and .u32 (n : Int) 16711680 = ((n % 16777216 / 65536 * 65536 : Nat) : Int) := by
    rw [show (16711680 : Int) = ((16711680 : Nat) : Int) from rfl, sw_u32a _ _ (by omega) (by omega), m16]
  have a3 : bits .and .u32 (n : Int) 65280 = ((n % 65536 / 256 * 256 : Nat) : Int) := by
    rw [show (65280 : Int) = ((65280 : Nat) : Int) from rfl, sw_u32a _ _ (by omega) (by omega), m8]
  have a4 : bits .and .u32 (n : Int) 255 = ((n % 256 : Nat) : Int) := by
    rw [show (255 : Int) = ((255 : Nat) : Int) from rfl, sw_u32a _ _ (by omega) (by omega), nat_mask8]
  have e5 : ((n : Int) * 256) % 4294967296 = ((n * 256 % 4294967296 : Nat) : Int) := by omega
  have a5 : bits .and .u32 ((n : Int) * 256 % 4294967296) 16711680 = ((n * 256 % 4294967296 % 16777216 / 65536 * 65536 : Nat) : Int) := by
    rw [e5, ← m16]; exact sw_u32a (n * 256 % 4294967296) 16711680 (by omega) (by omega)
  have e6 : (n : Int) / 256 = ((n / 256 : Nat) : Int) := by omega
  have a6 : bits .and .u32 ((n : Int) / 256) 65280 = ((n / 256 % 65536 / 256 * 256 : Nat) : Int) := by
    rw [e6, ← m8]; exact sw_u32a (n / 256) 65280 (by omega) (by omega)
  rw [a1, a2, a3, a4, a5, a6]
  clear a1 a2 a3 a4 a5 a6 e5 e6 m24 m16 m8
  rw [sw_g1 n h1, sw_g2, sw_g3, sw_g4, sw_g5, sw_g6, sw_g7, sw_g8]
  exact sw_end _ _ _ _ (sw_l1 n h1) (sw_l2 n) (sw_l3 n) (sw_l4 n)

end Go.Proofs.Ytbogknjgjbhagaa
