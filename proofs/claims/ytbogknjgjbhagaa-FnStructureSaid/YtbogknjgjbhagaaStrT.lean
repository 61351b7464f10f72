/- The shapes and the bits of each structure; numbers that fit it. -/
import Derived.Test.YtbogknjgjbhagaaStrS
import Derived.Test.YtbogknjgjbhagaaAtt8
namespace Go.Proofs.Ytbogknjgjbhagaa
open Go.RowKit
set_option linter.unusedSimpArgs false
set_option linter.unusedVariables false

theorem shp_none (K : Int) (h : K < 0 ∨ 8 < K) : Shp K ⟨#[]⟩ [] := by
  refine ⟨rfl, by simp, by simp, fun w => ?_⟩
  by_cases h1 : K < 0
  · have z1 : decide (K < 0) = true := by simpa using h1
    go_enter Try.func70, Try.ntmps70
    go_wp2_with fail
    go_ret
    exact ⟨rfl, Below.refl _ _⟩
  · have z1 : decide (K < 0) = false := by simpa using h1
    have z2 : decide (8 < K) = true := by simp; omega
    go_enter Try.func70, Try.ntmps70
    go_wp2_with fail
    go_ret
    exact ⟨rfl, Below.refl _ _⟩

theorem shp0 : Shp 0 ⟨#[49, 112, 50, 52, 52, 52]⟩ [49, 112, 50, 52, 52, 52] := by
  refine ⟨by decide, by decide, by decide, fun w => ?_⟩
  go_enter Try.func70, Try.ntmps70
  go_wp2_with fail
  go_ret
  exact ⟨rfl, (Below.refl _ w).alloc (Nat.le_refl _) _⟩

theorem shp1 : Shp 1 ⟨#[49, 49, 49, 49, 52]⟩ [49, 49, 49, 49, 52] := by
  refine ⟨by decide, by decide, by decide, fun w => ?_⟩
  go_enter Try.func70, Try.ntmps70
  go_wp2_with fail
  go_ret
  exact ⟨rfl, (Below.refl _ w).alloc (Nat.le_refl _) _⟩

theorem shp2 : Shp 2 ⟨#[52, 52, 52, 52]⟩ [52, 52, 52, 52] := by
  refine ⟨by decide, by decide, by decide, fun w => ?_⟩
  go_enter Try.func70, Try.ntmps70
  go_wp2_with fail
  go_ret
  exact ⟨rfl, (Below.refl _ w).alloc (Nat.le_refl _) _⟩

theorem shp3 : Shp 3 ⟨#[49, 49, 49, 49, 49, 49, 49, 49, 52]⟩ [49, 49, 49, 49, 49, 49, 49, 49, 52] := by
  refine ⟨by decide, by decide, by decide, fun w => ?_⟩
  go_enter Try.func70, Try.ntmps70
  go_wp2_with fail
  go_ret
  exact ⟨rfl, (Below.refl _ w).alloc (Nat.le_refl _) _⟩

theorem shp4 : Shp 4 ⟨#[49, 112, 112, 112]⟩ [49, 112, 112, 112] := by
  refine ⟨by decide, by decide, by decide, fun w => ?_⟩
  go_enter Try.func70, Try.ntmps70
  go_wp2_with fail
  go_ret
  exact ⟨rfl, (Below.refl _ w).alloc (Nat.le_refl _) _⟩

theorem shp5 : Shp 5 ⟨#[49, 49, 112, 112]⟩ [49, 49, 112, 112] := by
  refine ⟨by decide, by decide, by decide, fun w => ?_⟩
  go_enter Try.func70, Try.ntmps70
  go_wp2_with fail
  go_ret
  exact ⟨rfl, (Below.refl _ w).alloc (Nat.le_refl _) _⟩

theorem shp6 : Shp 6 ⟨#[52, 52, 52, 52, 50, 50, 52]⟩ [52, 52, 52, 52, 50, 50, 52] := by
  refine ⟨by decide, by decide, by decide, fun w => ?_⟩
  go_enter Try.func70, Try.ntmps70
  go_wp2_with fail
  go_ret
  exact ⟨rfl, (Below.refl _ w).alloc (Nat.le_refl _) _⟩

theorem shp7 : Shp 7 ⟨#[50, 50]⟩ [50, 50] := by
  refine ⟨by decide, by decide, by decide, fun w => ?_⟩
  go_enter Try.func70, Try.ntmps70
  go_wp2_with fail
  go_ret
  exact ⟨rfl, (Below.refl _ w).alloc (Nat.le_refl _) _⟩

theorem shp8 : Shp 8 ⟨#[52, 52]⟩ [52, 52] := by
  refine ⟨by decide, by decide, by decide, fun w => ?_⟩
  go_enter Try.func70, Try.ntmps70
  go_wp2_with fail
  go_ret
  exact ⟨rfl, (Below.refl _ w).alloc (Nat.le_refl _) _⟩

def BitsPost (bl : List Int) (w : World) (e : Ending) (w' : World) : Prop := ∃ g, e = .returned (.slice (some ⟨g, 0, none⟩) bl.length bl.length) ∧ w'.heap[g]? = some (.cells (intsC bl).toArray 3 (0, 0)) ∧ Below w.heap.size w w'

theorem bits0_calls (w : World) : Calls Try.prog 96 #[.int .i64 0] w fun e w' => BitsPost [8, 16, 33, 32, 32] w e w' := by
  go_enter Try.func96, Try.ntmps96
  go_wp2_with fail
  go_ret
  exact ⟨_, rfl, heap_alloc_new w _, (Below.refl _ w).alloc (Nat.le_refl _) _⟩

theorem bits1_calls (w : World) : Calls Try.prog 96 #[.int .i64 1] w fun e w' => BitsPost [8, 8, 8, 8, 32] w e w' := by
  go_enter Try.func96, Try.ntmps96
  go_wp2_with fail
  go_ret
  exact ⟨_, rfl, heap_alloc_new w _, (Below.refl _ w).alloc (Nat.le_refl _) _⟩

theorem bits2_calls (w : World) : Calls Try.prog 96 #[.int .i64 2] w fun e w' => BitsPost [32, 32, 32, 32] w e w' := by
  go_enter Try.func96, Try.ntmps96
  go_wp2_with fail
  go_ret
  exact ⟨_, rfl, heap_alloc_new w _, (Below.refl _ w).alloc (Nat.le_refl _) _⟩

theorem bits3_calls (w : World) : Calls Try.prog 96 #[.int .i64 3] w fun e w' => BitsPost [8, 8, 8, 8, 8, 8, 8, 8, 32] w e w' := by
  go_enter Try.func96, Try.ntmps96
  go_wp2_with fail
  go_ret
  exact ⟨_, rfl, heap_alloc_new w _, (Below.refl _ w).alloc (Nat.le_refl _) _⟩

theorem bits4_calls (w : World) : Calls Try.prog 96 #[.int .i64 4] w fun e w' => BitsPost [8] w e w' := by
  go_enter Try.func96, Try.ntmps96
  go_wp2_with fail
  go_ret
  exact ⟨_, rfl, heap_alloc_new w _, (Below.refl _ w).alloc (Nat.le_refl _) _⟩

theorem bits5_calls (w : World) : Calls Try.prog 96 #[.int .i64 5] w fun e w' => BitsPost [8, 8] w e w' := by
  go_enter Try.func96, Try.ntmps96
  go_wp2_with fail
  go_ret
  exact ⟨_, rfl, heap_alloc_new w _, (Below.refl _ w).alloc (Nat.le_refl _) _⟩

theorem bits6_calls (w : World) : Calls Try.prog 96 #[.int .i64 6] w fun e w' => BitsPost [32, 32, 32, 32, 16, 16, 32] w e w' := by
  go_enter Try.func96, Try.ntmps96
  go_wp2_with fail
  go_ret
  exact ⟨_, rfl, heap_alloc_new w _, (Below.refl _ w).alloc (Nat.le_refl _) _⟩

theorem bits7_calls (w : World) : Calls Try.prog 96 #[.int .i64 7] w fun e w' => BitsPost [16, 16] w e w' := by
  go_enter Try.func96, Try.ntmps96
  go_wp2_with fail
  go_ret
  exact ⟨_, rfl, heap_alloc_new w _, (Below.refl _ w).alloc (Nat.le_refl _) _⟩

theorem bits8_calls (w : World) : Calls Try.prog 96 #[.int .i64 8] w fun e w' => BitsPost [32, 32] w e w' := by
  go_enter Try.func96, Try.ntmps96
  go_wp2_with fail
  go_ret
  exact ⟨_, rfl, heap_alloc_new w _, (Below.refl _ w).alloc (Nat.le_refl _) _⟩

def BitOk (s x : Int) : Prop := 0 ≤ x ∧ (s = 33 ∧ x < 2147483648 ∨ s = 8 ∧ x < 256 ∨ s = 16 ∧ x < 65536 ∨ s = 32 ∧ x < 4294967296)

set_option maxHeartbeats 2000000 in
set_option maxRecDepth 100000 in
theorem fit_calls (K : Int) (bl : List Int) (hbits : ∀ w, Calls Try.prog 96 #[.int .i64 K] w fun e w' => BitsPost bl w e w') (b o c : Nat) (l : List Int) (w : World) (hl : l.length = bl.length) (h9 : bl.length ≤ 9)
    (hcell : ∀ j u, (u64C l)[j]? = some u → w.cell? ⟨b, o + j, none⟩ = some u) (hok : ∀ (i : Nat) (s x : Int), bl[i]? = some s → l[i]? = some x → BitOk s x) :
    Calls Try.prog 71 #[.int .i64 K, .slice (some ⟨b, o, none⟩) l.length c] w fun e w' => e = .returned (.bool true) ∧ Below w.heap.size w w' := by
  have q30 : ∀ (w : World) (a : Option Addr) (n c n' c' : Nat), (binOp .eql 30 (.slice a n c) (.slice none n' c')).run Try.prog w = .ok (.bool a.isNone) w := fun w a n c n' c' => Lib.run_eql_slice_nil w _ _ a n c n' c' Try.underlying30
  have HB := Lib.hid hbits
  have HC := Lib.hid hcell
  have HOK := Lib.hid hok
  obtain ⟨n, hn⟩ : ∃ n, n = bl.length := ⟨_, rfl⟩
  rw [← hn] at hl h9
  rw [hl]
  have HL := Lib.hid hl
  have HN := Lib.hid hn
  clear hbits hcell hok hn hl
  go_enter Try.func71, Try.ntmps71
  go_wp2_with fail
  refine (HB.out w).mono ?_
  rintro e w1 ⟨g, rfl, hg, hb1⟩
  rw [← HN.out]
  have HB1 := Lib.hid hb1
  have HG := Lib.hid hg
  clear hb1 hg
  go_wp2_with fail
  go_loopw [22] (fun i wr => ∃ k : Nat, k ≤ n ∧ i = .int .i64 (k : Nat) ∧ wr = w1) (fun i _ => n - (intOf i).toNat)
  case atStart => exact ⟨0, Nat.zero_le _, rfl, rfl⟩
  case round =>
    obtain ⟨k, hk, rfl, rfl⟩ := hrel
    by_cases hlt : k < n
    · have hkl : k < l.length := by rw [HL.out]; exact hlt
      have hkb : k < bl.length := by rw [← HN.out]; exact hlt
      have f0 := cells_one HB1.out (HC.out k (.int .u64 l[k]) (by rw [u64C, List.getElem?_map, List.getElem?_eq_getElem hkl]; rfl))
      have f1 : wr.cell? ⟨g, k, none⟩ = some (.int .i64 bl[k]) := (cell_of_row _ _ k _ _ (0, 0) HG.out).trans (by simp [intsC, List.getElem?_eq_getElem hkb])
      have hbo := HOK.out k bl[k] l[k] (List.getElem?_eq_getElem hkb) (List.getElem?_eq_getElem hkl)
      obtain ⟨x, hx⟩ : ∃ x, x = l[k] := ⟨_, rfl⟩
      obtain ⟨s, hs⟩ : ∃ s, s = bl[k] := ⟨_, rfl⟩
      rw [← hx] at f0 hbo
      rw [← hs] at f1 hbo
      obtain ⟨hx0, hbo⟩ := hbo
      clear hx hs
      rcases hbo with ⟨rfl, hxb⟩ | ⟨rfl, hxb⟩ | ⟨rfl, hxb⟩ | ⟨rfl, hxb⟩
      · have xw : IntKind.i64.wrap x = x := IntWalk.i64_in _ (by omega)
        have d1 : decide (x < -2147483648) = false := by simp; omega
        have d2 : decide (2147483648 ≤ x) = false := by simp; omega
        go_wp2_with fail
        go_roundw
        case rel => exact ⟨k + 1, by omega, by go_num, trivial⟩
        case measure => simp [intOf]; omega
      · have d1 : x / 256 = 0 := by omega
        go_wp2_with fail
        go_roundw
        case rel => exact ⟨k + 1, by omega, by go_num, trivial⟩
        case measure => simp [intOf]; omega
      · have d1 : x / 65536 = 0 := by omega
        go_wp2_with fail
        go_roundw
        case rel => exact ⟨k + 1, by omega, by go_num, trivial⟩
        case measure => simp [intOf]; omega
      · have d1 : x / 4294967296 = 0 := by omega
        go_wp2_with fail
        go_roundw
        case rel => exact ⟨k + 1, by omega, by go_num, trivial⟩
        case measure => simp [intOf]; omega
    · have hkn : k = n := by omega
      subst hkn
      go_wp2_with fail
      go_ret
      exact ⟨rfl, HB1.out⟩
end Go.Proofs.Ytbogknjgjbhagaa
