/- Numbers of 32 bits out of four bytes, the highest first, and into four bytes. -/
import Derived.Test.YtbogknjgjbhagaaBase
import Derived.Deep.QuietTactic
import Derived.BigQuiet
namespace Go.Proofs.Ytbogknjgjbhagaa
open Go.RowKit

def be32 (x0 x1 x2 x3 : Int) : Int := x0 * 16777216 + x1 * 65536 + x2 * 256 + x3

theorem be32_or (x0 x1 x2 x3 : Int) (h0 : 0 ≤ x0 ∧ x0 < 256) (h1 : 0 ≤ x1 ∧ x1 < 256) (h2 : 0 ≤ x2 ∧ x2 < 256) (h3 : 0 ≤ x3 ∧ x3 < 256) :
    bits .or .u32 (bits .or .u32 (bits .or .u32 x3 (x2 * 256)) (x1 * 65536)) (x0 * 16777216) = be32 x0 x1 x2 x3 := by
  obtain ⟨a, rfl⟩ := Int.eq_ofNat_of_zero_le h0.1
  obtain ⟨b, rfl⟩ := Int.eq_ofNat_of_zero_le h1.1
  obtain ⟨c, rfl⟩ := Int.eq_ofNat_of_zero_le h2.1
  obtain ⟨d, rfl⟩ := Int.eq_ofNat_of_zero_le h3.1
  have e2 : (c : Int) * 256 = ((c * 256 : Nat) : Int) := by omega
  have e1 : (b : Int) * 65536 = ((b * 65536 : Nat) : Int) := by omega
  have e0 : (a : Int) * 16777216 = ((a * 16777216 : Nat) : Int) := by omega
  have j1 : d ||| c * 256 = c * 256 + d := nat_join8' _ _ (by omega) (by omega)
  have j2 : (c * 256 + d) ||| b * 65536 = b * 65536 + (c * 256 + d) := nat_join16' _ _ (by omega) (by omega)
  have j3 : (b * 65536 + (c * 256 + d)) ||| a * 16777216 = a * 16777216 + (b * 65536 + (c * 256 + d)) := nat_join24' _ _ (by omega) (by omega)
  rw [e2, e1, e0, sw_u32o _ _ (by omega) (by omega), j1, sw_u32o _ _ (by omega) (by omega), j2, sw_u32o _ _ (by omega) (by omega), j3]
  unfold be32
  omega

set_option maxHeartbeats 1000000 in
theorem beUint32_calls (b o n c : Nat) (x0 x1 x2 x3 : Int) (w : World) (hn : 4 ≤ n) 
    (h0 : 0 ≤ x0 ∧ x0 < 256) (h1 : 0 ≤ x1 ∧ x1 < 256) (h2 : 0 ≤ x2 ∧ x2 < 256) (h3 : 0 ≤ x3 ∧ x3 < 256)
    (c0 : w.cell? ⟨b, o, none⟩ = some (.int .u8 x0)) (c1 : w.cell? ⟨b, o + 1, none⟩ = some (.int .u8 x1)) (c2 : w.cell? ⟨b, o + 2, none⟩ = some (.int .u8 x2)) (c3 : w.cell? ⟨b, o + 3, none⟩ = some (.int .u8 x3)) :
    Calls Try.prog 81 #[.slice (some ⟨b, o, none⟩) n c] w fun e w' => e = .returned (.int .u32 (be32 x0 x1 x2 x3)) ∧ ∃ m, w' = w.drewN m := by
  have i0 : (0 : Int) < (n : Int) := by omega
  have i1 : (1 : Int) < (n : Int) := by omega
  have i2 : (2 : Int) < (n : Int) := by omega
  have i3 : (3 : Int) < (n : Int) := by omega
  have E := Lib.hid (be32_or x0 x1 x2 x3 h0 h1 h2 h3)
  go_enter Try.func81, Try.ntmps81
  go_wp2
  go_quiet (fail)
  go_wp2
  go_ret
  exact ⟨congrArg (fun z => Ending.returned (.int .u32 z)) E.out, nq, rfl⟩

/-- The bytes of a number of 32 bits, the highest first. -/
def byteBe (v : Int) (r : Nat) : Int := v / 256 ^ (3 - r) % 256

set_option maxHeartbeats 1000000 in
theorem bePutUint32_calls (base g N cap o n c : Nat) (xs : List Value) (v : Int) (w : World) (hv : 0 ≤ v ∧ v < 4294967296) (hown : w.ownsRow base 5 1 (.slice (some ⟨g, 0, none⟩) N cap) N xs) (hn : 4 ≤ n) (hN : o + 4 ≤ N) :
    Calls Try.prog 82 #[.slice (some ⟨g, o, none⟩) n c, .int .u32 v] w fun e w' => e = .returned (.tuple #[]) ∧
      w'.ownsRow base 5 1 (.slice (some ⟨g, 0, none⟩) N cap) N ((((xs.set o (.int .u8 (byteBe v 0))).set (o + 1) (.int .u8 (byteBe v 1))).set (o + 2) (.int .u8 (byteBe v 2))).set (o + 3) (.int .u8 (byteBe v 3))) ∧ w.grownBy w' (some g) := by
  have i0 : (0 : Int) < (n : Int) := by omega
  have i1 : (1 : Int) < (n : Int) := by omega
  have i2 : (2 : Int) < (n : Int) := by omega
  have i3 : (3 : Int) < (n : Int) := by omega
  have hl : xs.length = N := by simpa using hown.1
  have cell : ∀ j, j < N → ∃ u, w.cell? ⟨g, j, none⟩ = some u := fun j hj => by
    rw [hown.cellAt j (by omega)]; exact ⟨_, List.getElem?_eq_getElem (by omega)⟩
  obtain ⟨u0, c0⟩ := cell o (by omega)
  obtain ⟨u1, c1⟩ := cell (o + 1) (by omega)
  obtain ⟨u2, c2⟩ := cell (o + 2) (by omega)
  obtain ⟨u3, c3⟩ := cell (o + 3) (by omega)
  have f0 := hown.frozenAt o
  have f1 := hown.frozenAt (o + 1)
  have f2 := hown.frozenAt (o + 2)
  have f3 := hown.frozenAt (o + 3)
  have H := Lib.hid hown
  clear hown cell hl
  go_enter Try.func82, Try.ntmps82
  go_wp2
  go_end0
  have e0 : byteBe v 0 = v / 16777216 := by unfold byteBe; simp; omega
  have e1 : byteBe v 1 = v / 65536 % 256 := by unfold byteBe; simp
  have e2 : byteBe v 2 = v / 256 % 256 := by unfold byteBe; simp
  have e3 : byteBe v 3 = v % 256 := by unfold byteBe; simp
  rw [e0, e1, e2, e3]
  have s0 := H.out.stored o (.int .u8 (v / 16777216))
  have s1 := s0.1.stored (o + 1) (.int .u8 (v / 65536 % 256))
  have s2 := s1.1.stored (o + 2) (.int .u8 (v / 256 % 256))
  have s3 := s2.1.stored (o + 3) (.int .u8 (v % 256))
  exact ⟨rfl, s3.1, grown_trans (grown_trans (grown_trans s0.2 s1.2) s2.2) s3.2⟩

end Go.Proofs.Ytbogknjgjbhagaa
