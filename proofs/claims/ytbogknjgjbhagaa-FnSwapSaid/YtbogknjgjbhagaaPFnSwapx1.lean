-- PRINTED BY print.sh 35421559b90ae4d0a3588c463048766b98c2df88dd9212a6774a882060cdf62d: not written by this session
import Derived.Test.YtbogknjgjbhagaaPFnSwapx0
namespace Go.Proofs.Ytbogknjgjbhagaa.PFnSwap
open Go.RowKit Go.Proofs.YtbogknjgjbhagaaW.PrintWords Go.Proofs.YtbogknjgjbhagaaW.PrintLast Go.Proofs.YtbogknjgjbhagaaW.PrintMore
attribute [local go_sem] max2_int min2_int max_two min_two max_three min_three max_four min_four   -- for this text's walks alone
set_option linter.unusedVariables false
set_option linter.unusedSimpArgs false

/-! ### vnl_nlmAlignOf: function 79 -/
def vnl_nlmAlignOf.f (a0 : Int) : Option (Int) := some (Go.bits .and .i64 (wrap64 ((wrap64 (a0 + 4)) - 1)) (-4))
set_option maxHeartbeats 8000000 in
set_option maxRecDepth 100000 in
theorem vnl_nlmAlignOf.calls (a0 : Int) (r : Int) (w : World) (h : vnl_nlmAlignOf.f a0 = some r) :
    Calls Try.prog 79 #[.int .i64 a0] w fun e w' => e = .returned (.int .i64 r) ∧ Drawn0 w w' := by
  have H : (some (Go.bits .and .i64 (wrap64 ((wrap64 (a0 + 4)) - 1)) (-4))) = some r := h
  clear h
  obtain rfl := Option.some.inj H
  go_enter Try.func79, Try.ntmps79
  go_wp2
  go_ret
  exact ⟨by first | rfl | (simp; done) | (simp [*]; done), by repeat (first | exact Drawn0.refl _ | apply Drawn0.step)⟩

/-! ### vnl_ZZAlign: function 40 -/
def vnl_ZZAlign.f (a0 : Int) : Option (Int) := (vnl_nlmAlignOf.f a0).bind fun t101 => (some t101)
set_option maxHeartbeats 8000000 in
set_option maxRecDepth 100000 in
theorem vnl_ZZAlign.calls (a0 : Int) (r : Int) (w : World) (h : vnl_ZZAlign.f a0 = some r) :
    Calls Try.prog 40 #[.int .i64 a0] w fun e w' => e = .returned (.int .i64 r) ∧ Drawn0 w w' := by
  have H : ((vnl_nlmAlignOf.f a0).bind fun t101 => (some t101)) = some r := h
  clear h
  replace H := Option.bind_eq_some_iff.mp H
  obtain ⟨t101, A20, H⟩ := H
  replace H : (some t101) = some r := H
  have A2 := Aside0.mk A20
  clear A20
  obtain rfl := Option.some.inj H
  go_enter Try.func40, Try.ntmps40
  go_wp2_with (first | ((with_reducible refine gate_callee (f := 79) rfl ?_); refine goesL_ (some 4) rfl rfl Try.func79 (by kernel_rfl) rfl #[.int .i64 a0] rfl (by (try simp only [List.map_toArray, List.map_cons, List.map_nil]); first | done | rfl | (simp only [List.length_drop, List.length_take]; rfl)) ?_; (with_reducible refine (vnl_nlmAlignOf.calls a0 t101 _ A2.out).mono ?_); rintro e w' ⟨rfl, ⟨nd, rfl⟩⟩; refine ⟨_, rfl, ?_⟩))
  go_ret
  exact ⟨by first | rfl | (simp; done) | (simp [*]; done), by repeat (first | exact Drawn0.refl _ | apply Drawn0.step)⟩

/-! ### impl_Align: function 14 -/
def impl_Align.f (a0 : Int) : Option (Int) := (vnl_ZZAlign.f a0).bind fun t102 => (some t102)
set_option maxHeartbeats 8000000 in
set_option maxRecDepth 100000 in
theorem impl_Align.calls (a0 : Int) (r : Int) (w : World) (h : impl_Align.f a0 = some r) :
    Calls Try.prog 14 #[.int .i64 a0] w fun e w' => e = .returned (.int .i64 r) ∧ Drawn0 w w' := by
  have H : ((vnl_ZZAlign.f a0).bind fun t102 => (some t102)) = some r := h
  clear h
  replace H := Option.bind_eq_some_iff.mp H
  obtain ⟨t102, A20, H⟩ := H
  replace H : (some t102) = some r := H
  have A2 := Aside0.mk A20
  clear A20
  obtain rfl := Option.some.inj H
  go_enter Try.func14, Try.ntmps14
  go_wp2_with (first | ((with_reducible refine gate_callee (f := 40) rfl ?_); refine goesL_ (some 4) rfl rfl Try.func40 (by kernel_rfl) rfl #[.int .i64 a0] rfl (by (try simp only [List.map_toArray, List.map_cons, List.map_nil]); first | done | rfl | (simp only [List.length_drop, List.length_take]; rfl)) ?_; (with_reducible refine (vnl_ZZAlign.calls a0 t102 _ A2.out).mono ?_); rintro e w' ⟨rfl, ⟨nd, rfl⟩⟩; refine ⟨_, rfl, ?_⟩))
  go_ret
  exact ⟨by first | rfl | (simp; done) | (simp [*]; done), by repeat (first | exact Drawn0.refl _ | apply Drawn0.step)⟩

/-! ### laws_works: function 11 -/
def laws_works.f  : Option (Bool) := (impl_Align.f 5).bind fun t103 => (some (t103 == 8))
set_option maxHeartbeats 8000000 in
set_option maxRecDepth 100000 in
theorem laws_works.calls  (r : Bool) (w : World) (h : laws_works.f  = some r) :
    Calls Try.prog 11 #[] w fun e w' => e = .returned (.bool r) ∧ Drawn0 w w' := by
  have H : ((impl_Align.f 5).bind fun t103 => (some (t103 == 8))) = some r := h
  clear h
  replace H := Option.bind_eq_some_iff.mp H
  obtain ⟨t103, A10, H⟩ := H
  replace H : (some (t103 == 8)) = some r := H
  have A1 := Aside0.mk A10
  clear A10
  obtain rfl := Option.some.inj H
  go_enter Try.func11, Try.ntmps11
  go_wp2_with (first | ((with_reducible refine gate_callee (f := 14) rfl ?_); refine goesL_ (some 1) rfl rfl Try.func14 (by kernel_rfl) rfl #[.int .i64 5] rfl (by (try simp only [List.map_toArray, List.map_cons, List.map_nil]); first | done | rfl | (simp only [List.length_drop, List.length_take]; rfl)) ?_; (with_reducible refine (impl_Align.calls 5 t103 _ A1.out).mono ?_); rintro e w' ⟨rfl, ⟨nd, rfl⟩⟩; refine ⟨_, rfl, ?_⟩))
  go_ret
  exact ⟨by first | rfl | (simp; done) | (simp [*]; done), by repeat (first | exact Drawn0.refl _ | apply Drawn0.step)⟩

/-! ### vnl_Swap16: function 38 -/
def vnl_Swap16.f (a0 : Int) : Option (Int) := some (Go.bits .or .u16 ((Go.bits .and .u16 a0 65280) / 256) (IntKind.u16.wrap ((Go.bits .and .u16 a0 255) * 256)))
set_option maxHeartbeats 8000000 in
set_option maxRecDepth 100000 in
theorem vnl_Swap16.calls (a0 : Int) (r : Int) (w : World) (h : vnl_Swap16.f a0 = some r) :
    Calls Try.prog 38 #[.int .u16 a0] w fun e w' => e = .returned (.int .u16 r) ∧ Drawn0 w w' := by
  have H : (some (Go.bits .or .u16 ((Go.bits .and .u16 a0 65280) / 256) (IntKind.u16.wrap ((Go.bits .and .u16 a0 255) * 256)))) = some r := h
  clear h
  obtain rfl := Option.some.inj H
  go_enter Try.func38, Try.ntmps38
  go_wp2
  go_ret
  exact ⟨by first | rfl | (simp; done) | (simp [*]; done), by repeat (first | exact Drawn0.refl _ | apply Drawn0.step)⟩

/-! ### impl_Swap16: function 12 -/
def impl_Swap16.f (a0 : Int) : Option (Int) := (vnl_Swap16.f a0).bind fun t104 => (some t104)
set_option maxHeartbeats 8000000 in
set_option maxRecDepth 100000 in
theorem impl_Swap16.calls (a0 : Int) (r : Int) (w : World) (h : impl_Swap16.f a0 = some r) :
    Calls Try.prog 12 #[.int .u16 a0] w fun e w' => e = .returned (.int .u16 r) ∧ Drawn0 w w' := by
  have H : ((vnl_Swap16.f a0).bind fun t104 => (some t104)) = some r := h
  clear h
  replace H := Option.bind_eq_some_iff.mp H
  obtain ⟨t104, A20, H⟩ := H
  replace H : (some t104) = some r := H
  have A2 := Aside0.mk A20
  clear A20
  obtain rfl := Option.some.inj H
  go_enter Try.func12, Try.ntmps12
  go_wp2_with (first | ((with_reducible refine gate_callee (f := 38) rfl ?_); refine goesL_ (some 4) rfl rfl Try.func38 (by kernel_rfl) rfl #[.int .u16 a0] rfl (by (try simp only [List.map_toArray, List.map_cons, List.map_nil]); first | done | rfl | (simp only [List.length_drop, List.length_take]; rfl)) ?_; (with_reducible refine (vnl_Swap16.calls a0 t104 _ A2.out).mono ?_); rintro e w' ⟨rfl, ⟨nd, rfl⟩⟩; refine ⟨_, rfl, ?_⟩))
  go_ret
  exact ⟨by first | rfl | (simp; done) | (simp [*]; done), by repeat (first | exact Drawn0.refl _ | apply Drawn0.step)⟩

/-! ### vnl_Swap32: function 39 -/
def vnl_Swap32.f (a0 : Int) : Option (Int) := some (Go.bits .or .u32 (Go.bits .or .u32 (Go.bits .or .u32 ((Go.bits .and .u32 a0 4278190080) / 16777216) ((Go.bits .and .u32 a0 16711680) / 256)) (((Go.bits .and .u32 a0 65280) * 256) % 4294967296)) (((Go.bits .and .u32 a0 255) * 16777216) % 4294967296))
set_option maxHeartbeats 8000000 in
set_option maxRecDepth 100000 in
theorem vnl_Swap32.calls (a0 : Int) (r : Int) (w : World) (h : vnl_Swap32.f a0 = some r) :
    Calls Try.prog 39 #[.int .u32 a0] w fun e w' => e = .returned (.int .u32 r) ∧ Drawn0 w w' := by
  have H : (some (Go.bits .or .u32 (Go.bits .or .u32 (Go.bits .or .u32 ((Go.bits .and .u32 a0 4278190080) / 16777216) ((Go.bits .and .u32 a0 16711680) / 256)) (((Go.bits .and .u32 a0 65280) * 256) % 4294967296)) (((Go.bits .and .u32 a0 255) * 16777216) % 4294967296))) = some r := h
  clear h
  obtain rfl := Option.some.inj H
  go_enter Try.func39, Try.ntmps39
  go_wp2
  go_ret
  exact ⟨by first | rfl | (simp; done) | (simp [*]; done), by repeat (first | exact Drawn0.refl _ | apply Drawn0.step)⟩

/-! ### impl_Swap32: function 13 -/
def impl_Swap32.f (a0 : Int) : Option (Int) := (vnl_Swap32.f a0).bind fun t105 => (some t105)
set_option maxHeartbeats 8000000 in
set_option maxRecDepth 100000 in
theorem impl_Swap32.calls (a0 : Int) (r : Int) (w : World) (h : impl_Swap32.f a0 = some r) :
    Calls Try.prog 13 #[.int .u32 a0] w fun e w' => e = .returned (.int .u32 r) ∧ Drawn0 w w' := by
  have H : ((vnl_Swap32.f a0).bind fun t105 => (some t105)) = some r := h
  clear h
  replace H := Option.bind_eq_some_iff.mp H
  obtain ⟨t105, A20, H⟩ := H
  replace H : (some t105) = some r := H
  have A2 := Aside0.mk A20
  clear A20
  obtain rfl := Option.some.inj H
  go_enter Try.func13, Try.ntmps13
  go_wp2_with (first | ((with_reducible refine gate_callee (f := 39) rfl ?_); refine goesL_ (some 4) rfl rfl Try.func39 (by kernel_rfl) rfl #[.int .u32 a0] rfl (by (try simp only [List.map_toArray, List.map_cons, List.map_nil]); first | done | rfl | (simp only [List.length_drop, List.length_take]; rfl)) ?_; (with_reducible refine (vnl_Swap32.calls a0 t105 _ A2.out).mono ?_); rintro e w' ⟨rfl, ⟨nd, rfl⟩⟩; refine ⟨_, rfl, ?_⟩))
  go_ret
  exact ⟨by first | rfl | (simp; done) | (simp [*]; done), by repeat (first | exact Drawn0.refl _ | apply Drawn0.step)⟩

/-! ### spec_Align: function 15 -/
def spec_Align.f (a0 : Int) : Option (Int) := some (wrap64 ((wrap64 (Int.tdiv (wrap64 (a0 + 3)) 4)) * 4))
set_option maxHeartbeats 8000000 in
set_option maxRecDepth 100000 in
theorem spec_Align.calls (a0 : Int) (r : Int) (w : World) (h : spec_Align.f a0 = some r) :
    Calls Try.prog 15 #[.int .i64 a0] w fun e w' => e = .returned (.int .i64 r) ∧ Drawn0 w w' := by
  have H : (some (wrap64 ((wrap64 (Int.tdiv (wrap64 (a0 + 3)) 4)) * 4))) = some r := h
  clear h
  obtain rfl := Option.some.inj H
  go_enter Try.func15, Try.ntmps15
  go_wp2
  go_ret
  exact ⟨by first | rfl | (simp; done) | (simp [*]; done), by repeat (first | exact Drawn0.refl _ | apply Drawn0.step)⟩

/-! ### laws_FnSwap: function 3 -/
def laws_FnSwap.j0 : Nat → Int → Int → Int → Bool → Option (Bool)
  | 0, _, _, _, _ => none
  | k + 1, x0, x1, x2, x12 => if x12 = true then ((laws_works.f).bind fun t106 => (some t106)) else ((impl_Swap16.f x0).bind fun t107 => (if t107 = (Go.bits .or .u16 (IntKind.u16.wrap (x0 * 256)) (x0 / 256)) then ((impl_Swap32.f x1).bind fun t108 => (if t108 = (Go.bits .or .u32 (Go.bits .or .u32 (Go.bits .or .u32 ((x1 * 16777216) % 4294967296) (Go.bits .and .u32 ((x1 * 256) % 4294967296) 16711680)) (Go.bits .and .u32 (x1 / 256) 65280)) (x1 / 16777216)) then ((impl_Align.f x2).bind fun t109 => ((spec_Align.f x2).bind fun t110 => (if t109 = t110 then ((laws_works.f).bind fun t111 => (some t111)) else (some false)))) else (some false))) else (some false)))
def laws_FnSwap.f (k : Nat) (a0 : Int) (a1 : Int) (a2 : Int) : Option (Bool) := if a2 < 0 then (laws_FnSwap.j0 k a0 a1 a2 true) else (laws_FnSwap.j0 k a0 a1 a2 (decide (a2 > 1099511627776)))
theorem laws_FnSwap.mono_l : ∀ k, (∀ y0 y1 y2 y3, LeO (laws_FnSwap.j0 k y0 y1 y2 y3) (laws_FnSwap.j0 (k + 1) y0 y1 y2 y3))
  | 0 => fun _ _ _ _ r h => by simp [laws_FnSwap.j0] at h
  | k + 1 => by
    have ih0 := laws_FnSwap.mono_l k
    · intro y0 y1 y2 y3
      unfold laws_FnSwap.j0
      repeat' first
      | (with_reducible exact ih0 _ _ _ _)
      | (with_reducible exact LeO.refl _)
      | (with_reducible exact LeO.none _)
      | (with_reducible refine LeO.ite ?_ ?_)
      | (with_reducible refine LeO.bind ?_ (fun _ => ?_))
      | exact ih0 _ _ _ _
      | exact LeO.none _
      | refine LeO.ite ?_ ?_
      | refine LeO.bind ?_ (fun _ => ?_)
theorem laws_FnSwap.mono : ∀ a0 a1 a2 k, LeO (laws_FnSwap.f k a0 a1 a2) (laws_FnSwap.f (k + 1) a0 a1 a2) := by
  intro a0 a1 a2 k
  have ih0 := laws_FnSwap.mono_l k
  unfold laws_FnSwap.f
  repeat' first
      | (with_reducible exact ih0 _ _ _ _)
      | (with_reducible exact LeO.refl _)
      | (with_reducible exact LeO.none _)
      | (with_reducible refine LeO.ite ?_ ?_)
      | (with_reducible refine LeO.bind ?_ (fun _ => ?_))
      | exact ih0 _ _ _ _
      | exact LeO.none _
      | refine LeO.ite ?_ ?_
      | refine LeO.bind ?_ (fun _ => ?_)
set_option maxHeartbeats 8000000 in
set_option maxRecDepth 100000 in
theorem laws_FnSwap.calls (k : Nat) (a0 : Int) (a1 : Int) (a2 : Int) (r : Bool) (w : World) (h : laws_FnSwap.f k a0 a1 a2 = some r) :
    Calls Try.prog 3 #[.int .u16 a0, .int .u32 a1, .int .i64 a2] w fun e w' => e = .returned (.bool r) ∧ Drawn0 w w' := by
  have H : (if a2 < 0 then (laws_FnSwap.j0 k a0 a1 a2 true) else (laws_FnSwap.j0 k a0 a1 a2 (decide (a2 > 1099511627776)))) = some r := h
  clear h
  have HC4 := Aside0.mk H
  clear H
  go_enter Try.func3, Try.ntmps3
  go_upto_region 1 with (fail)
  go_cut [12] (fun v12 wc => ∃ (kq : Nat) (x12_3 : Bool), v12 = .bool x12_3 ∧ Aside0 (laws_FnSwap.j0 kq a0 a1 a2 x12_3 = some r) ∧ Aside0 (kq ≤ k) ∧ Drawn0 w wc)
  case first =>
    have H := HC4.out
    clear HC4
    by_cases c5 : a2 < 0
    · rw [if_pos c5] at H
      have c5b0 : decide (a2 < 0) = true := decide_eq_true c5
      clear c5
      (first | rw [c5b0] | (simp only [i64_w, i32_w]; rw [c5b0]) | skip)
      have H' := Aside0.mk H
      clear H
      go_wp2
      go_meet
      case rel => exact ⟨_, (true), (by first | rfl | (simp; done) | (simp [*]; done)), H', ⟨by first | omega | exact Nat.le_refl _⟩, by repeat (first | exact Drawn0.refl _ | apply Drawn0.step)⟩
    · rw [if_neg c5] at H
      have c5b0 : decide (a2 < 0) = false := decide_eq_false c5
      clear c5
      (first | rw [c5b0] | (simp only [i64_w, i32_w]; rw [c5b0]) | skip)
      have H' := Aside0.mk H
      clear H
      go_wp2
      go_meet
      case rel => exact ⟨_, (decide (a2 > 1099511627776)), (by first | rfl | (simp; done) | (simp [*]; done)), H', ⟨by first | omega | exact Nat.le_refl _⟩, by repeat (first | exact Drawn0.refl _ | apply Drawn0.step)⟩
  case rest =>
    clear HC4
    try clear p2
    try clear c3
    try clear c5
    try clear c5b0
    obtain ⟨kq, x12_3, rfl, HA, HJ3, ⟨mc3, rfl⟩⟩ := hcut
    cases kq with
    | zero => exact absurd HA.out (by simp [laws_FnSwap.j0])
    | succ kj3 =>
      have H := HA.out
      clear HA
      simp only [laws_FnSwap.j0] at H
      by_cases c6 : x12_3 = true
      · subst c6
        have H1 : ((laws_works.f).bind fun t106 => (some t106)) = some r := by rw [if_pos rfl] at H; exact H
        clear H
        have H := H1
        clear H1
        replace H := Option.bind_eq_some_iff.mp H
        obtain ⟨t106, A70, H⟩ := H
        replace H : (some t106) = some r := H
        have A7 := Aside0.mk A70
        clear A70
        obtain rfl := Option.some.inj H
        go_wp2_with (first | ((with_reducible refine gate_callee (f := 11) rfl ?_); refine goesL_ (some 13) rfl rfl Try.func11 (by kernel_rfl) rfl #[] rfl (by (try simp only [List.map_toArray, List.map_cons, List.map_nil]); first | done | rfl | (simp only [List.length_drop, List.length_take]; rfl)) ?_; (with_reducible refine (laws_works.calls  t106 _ A7.out).mono ?_); rintro e w' ⟨rfl, ⟨nd, rfl⟩⟩; refine ⟨_, rfl, ?_⟩))
        go_ret
        exact ⟨by first | rfl | (simp; done) | (simp [*]; done), by repeat (first | exact Drawn0.refl _ | apply Drawn0.step)⟩
      · replace c6 := Bool.eq_false_iff.mpr c6
        subst c6
        have H1 : ((impl_Swap16.f a0).bind fun t107 => (if t107 = (Go.bits .or .u16 (IntKind.u16.wrap (a0 * 256)) (a0 / 256)) then ((impl_Swap32.f a1).bind fun t108 => (if t108 = (Go.bits .or .u32 (Go.bits .or .u32 (Go.bits .or .u32 ((a1 * 16777216) % 4294967296) (Go.bits .and .u32 ((a1 * 256) % 4294967296) 16711680)) (Go.bits .and .u32 (a1 / 256) 65280)) (a1 / 16777216)) then ((impl_Align.f a2).bind fun t109 => ((spec_Align.f a2).bind fun t110 => (if t109 = t110 then ((laws_works.f).bind fun t111 => (some t111)) else (some false)))) else (some false))) else (some false))) = some r := by rw [if_neg (show ¬ (false = true) by decide)] at H; exact H
        clear H
        have H := H1
        clear H1
        replace H := Option.bind_eq_some_iff.mp H
        obtain ⟨t107, A80, H⟩ := H
        replace H : (if t107 = (Go.bits .or .u16 (IntKind.u16.wrap (a0 * 256)) (a0 / 256)) then ((impl_Swap32.f a1).bind fun t108 => (if t108 = (Go.bits .or .u32 (Go.bits .or .u32 (Go.bits .or .u32 ((a1 * 16777216) % 4294967296) (Go.bits .and .u32 ((a1 * 256) % 4294967296) 16711680)) (Go.bits .and .u32 (a1 / 256) 65280)) (a1 / 16777216)) then ((impl_Align.f a2).bind fun t109 => ((spec_Align.f a2).bind fun t110 => (if t109 = t110 then ((laws_works.f).bind fun t111 => (some t111)) else (some false)))) else (some false))) else (some false)) = some r := H
        have A8 := Aside0.mk A80
        clear A80
        by_cases c9 : t107 = (Go.bits .or .u16 (IntKind.u16.wrap (a0 * 256)) (a0 / 256))
        · rw [if_pos c9] at H
          have c9b0 : (t107 == (Go.bits .or .u16 (IntKind.u16.wrap (a0 * 256)) (a0 / 256))) = true := beq_iff_eq.mpr c9
          have c9b1 : (t107 != (Go.bits .or .u16 (IntKind.u16.wrap (a0 * 256)) (a0 / 256))) = false := bne_eq_false_iff_eq.mpr c9
          clear c9
          replace H := Option.bind_eq_some_iff.mp H
          obtain ⟨t108, A100, H⟩ := H
          replace H : (if t108 = (Go.bits .or .u32 (Go.bits .or .u32 (Go.bits .or .u32 ((a1 * 16777216) % 4294967296) (Go.bits .and .u32 ((a1 * 256) % 4294967296) 16711680)) (Go.bits .and .u32 (a1 / 256) 65280)) (a1 / 16777216)) then ((impl_Align.f a2).bind fun t109 => ((spec_Align.f a2).bind fun t110 => (if t109 = t110 then ((laws_works.f).bind fun t111 => (some t111)) else (some false)))) else (some false)) = some r := H
          have A10 := Aside0.mk A100
          clear A100
          by_cases c11 : t108 = (Go.bits .or .u32 (Go.bits .or .u32 (Go.bits .or .u32 ((a1 * 16777216) % 4294967296) (Go.bits .and .u32 ((a1 * 256) % 4294967296) 16711680)) (Go.bits .and .u32 (a1 / 256) 65280)) (a1 / 16777216))
          · rw [if_pos c11] at H
            have c11b0 : (t108 == (Go.bits .or .u32 (Go.bits .or .u32 (Go.bits .or .u32 ((a1 * 16777216) % 4294967296) (Go.bits .and .u32 ((a1 * 256) % 4294967296) 16711680)) (Go.bits .and .u32 (a1 / 256) 65280)) (a1 / 16777216))) = true := beq_iff_eq.mpr c11
            have c11b1 : (t108 != (Go.bits .or .u32 (Go.bits .or .u32 (Go.bits .or .u32 ((a1 * 16777216) % 4294967296) (Go.bits .and .u32 ((a1 * 256) % 4294967296) 16711680)) (Go.bits .and .u32 (a1 / 256) 65280)) (a1 / 16777216))) = false := bne_eq_false_iff_eq.mpr c11
            clear c11
            replace H := Option.bind_eq_some_iff.mp H
            obtain ⟨t109, A120, H⟩ := H
            replace H : ((spec_Align.f a2).bind fun t110 => (if t109 = t110 then ((laws_works.f).bind fun t111 => (some t111)) else (some false))) = some r := H
            have A12 := Aside0.mk A120
            clear A120
            replace H := Option.bind_eq_some_iff.mp H
            obtain ⟨t110, A130, H⟩ := H
            replace H : (if t109 = t110 then ((laws_works.f).bind fun t111 => (some t111)) else (some false)) = some r := H
            have A13 := Aside0.mk A130
            clear A130
            by_cases c14 : t109 = t110
            · rw [if_pos c14] at H
              have c14b0 : (t109 == t110) = true := beq_iff_eq.mpr c14
              have c14b1 : (t109 != t110) = false := bne_eq_false_iff_eq.mpr c14
              clear c14
              replace H := Option.bind_eq_some_iff.mp H
              obtain ⟨t111, A150, H⟩ := H
              replace H : (some t111) = some r := H
              have A15 := Aside0.mk A150
              clear A150
              obtain rfl := Option.some.inj H
              go_wp2_with (first | ((with_reducible refine gate_callee (f := 12) rfl ?_); refine goesL_ (some 15) rfl rfl Try.func12 (by kernel_rfl) rfl #[.int .u16 a0] rfl (by (try simp only [List.map_toArray, List.map_cons, List.map_nil]); first | done | rfl | (simp only [List.length_drop, List.length_take]; rfl)) ?_; (with_reducible refine (impl_Swap16.calls a0 t107 _ A8.out).mono ?_); rintro e w' ⟨rfl, ⟨nd, rfl⟩⟩; refine ⟨_, rfl, ?_⟩) | (go_at_call 13; (with_reducible refine (impl_Swap32.calls a1 t108 _ A10.out).mono ?_); rintro e w' ⟨rfl, ⟨nd, rfl⟩⟩) | (go_at_call 14; (with_reducible refine (impl_Align.calls a2 t109 _ A12.out).mono ?_); rintro e w' ⟨rfl, ⟨nd, rfl⟩⟩) | (go_at_call 15; (with_reducible refine (spec_Align.calls a2 t110 _ A13.out).mono ?_); rintro e w' ⟨rfl, ⟨nd, rfl⟩⟩) | (go_at_call 11; (with_reducible refine (laws_works.calls  t111 _ A15.out).mono ?_); rintro e w' ⟨rfl, ⟨nd, rfl⟩⟩))
              go_ret
              exact ⟨by first | rfl | (simp; done) | (simp [*]; done), by repeat (first | exact Drawn0.refl _ | apply Drawn0.step)⟩
            · rw [if_neg c14] at H
              have c14b0 : (t109 == t110) = false := beq_eq_false_iff_ne.mpr c14
              have c14b1 : (t109 != t110) = true := bne_iff_ne.mpr c14
              obtain rfl := Option.some.inj H
              go_wp2_with (first | ((with_reducible refine gate_callee (f := 12) rfl ?_); refine goesL_ (some 15) rfl rfl Try.func12 (by kernel_rfl) rfl #[.int .u16 a0] rfl (by (try simp only [List.map_toArray, List.map_cons, List.map_nil]); first | done | rfl | (simp only [List.length_drop, List.length_take]; rfl)) ?_; (with_reducible refine (impl_Swap16.calls a0 t107 _ A8.out).mono ?_); rintro e w' ⟨rfl, ⟨nd, rfl⟩⟩; refine ⟨_, rfl, ?_⟩) | (go_at_call 13; (with_reducible refine (impl_Swap32.calls a1 t108 _ A10.out).mono ?_); rintro e w' ⟨rfl, ⟨nd, rfl⟩⟩) | (go_at_call 14; (with_reducible refine (impl_Align.calls a2 t109 _ A12.out).mono ?_); rintro e w' ⟨rfl, ⟨nd, rfl⟩⟩) | (go_at_call 15; (with_reducible refine (spec_Align.calls a2 t110 _ A13.out).mono ?_); rintro e w' ⟨rfl, ⟨nd, rfl⟩⟩))
              go_ret
              exact ⟨by first | rfl | (simp; done) | (simp [*]; done), by repeat (first | exact Drawn0.refl _ | apply Drawn0.step)⟩
          · rw [if_neg c11] at H
            have c11b0 : (t108 == (Go.bits .or .u32 (Go.bits .or .u32 (Go.bits .or .u32 ((a1 * 16777216) % 4294967296) (Go.bits .and .u32 ((a1 * 256) % 4294967296) 16711680)) (Go.bits .and .u32 (a1 / 256) 65280)) (a1 / 16777216))) = false := beq_eq_false_iff_ne.mpr c11
            have c11b1 : (t108 != (Go.bits .or .u32 (Go.bits .or .u32 (Go.bits .or .u32 ((a1 * 16777216) % 4294967296) (Go.bits .and .u32 ((a1 * 256) % 4294967296) 16711680)) (Go.bits .and .u32 (a1 / 256) 65280)) (a1 / 16777216))) = true := bne_iff_ne.mpr c11
            obtain rfl := Option.some.inj H
            go_wp2_with (first | ((with_reducible refine gate_callee (f := 12) rfl ?_); refine goesL_ (some 15) rfl rfl Try.func12 (by kernel_rfl) rfl #[.int .u16 a0] rfl (by (try simp only [List.map_toArray, List.map_cons, List.map_nil]); first | done | rfl | (simp only [List.length_drop, List.length_take]; rfl)) ?_; (with_reducible refine (impl_Swap16.calls a0 t107 _ A8.out).mono ?_); rintro e w' ⟨rfl, ⟨nd, rfl⟩⟩; refine ⟨_, rfl, ?_⟩) | (go_at_call 13; (with_reducible refine (impl_Swap32.calls a1 t108 _ A10.out).mono ?_); rintro e w' ⟨rfl, ⟨nd, rfl⟩⟩))
            go_ret
            exact ⟨by first | rfl | (simp; done) | (simp [*]; done), by repeat (first | exact Drawn0.refl _ | apply Drawn0.step)⟩
        · rw [if_neg c9] at H
          have c9b0 : (t107 == (Go.bits .or .u16 (IntKind.u16.wrap (a0 * 256)) (a0 / 256))) = false := beq_eq_false_iff_ne.mpr c9
          have c9b1 : (t107 != (Go.bits .or .u16 (IntKind.u16.wrap (a0 * 256)) (a0 / 256))) = true := bne_iff_ne.mpr c9
          obtain rfl := Option.some.inj H
          go_wp2_with (first | ((with_reducible refine gate_callee (f := 12) rfl ?_); refine goesL_ (some 15) rfl rfl Try.func12 (by kernel_rfl) rfl #[.int .u16 a0] rfl (by (try simp only [List.map_toArray, List.map_cons, List.map_nil]); first | done | rfl | (simp only [List.length_drop, List.length_take]; rfl)) ?_; (with_reducible refine (impl_Swap16.calls a0 t107 _ A8.out).mono ?_); rintro e w' ⟨rfl, ⟨nd, rfl⟩⟩; refine ⟨_, rfl, ?_⟩))
          go_ret
          exact ⟨by first | rfl | (simp; done) | (simp [*]; done), by repeat (first | exact Drawn0.refl _ | apply Drawn0.step)⟩

/-- THE ONE PURE STATEMENT of laws_FnSwap: yours. -/
def laws_FnSwap.Pure : Prop := ∀ (a0 : Int) (a1 : Int) (a2 : Int), (Lit.int .u16 a0).wf = true → (Lit.int .u32 a1).wf = true → (Lit.int .i64 a2).wf = true → ∃ k, laws_FnSwap.f k a0 a1 a2 = some true
theorem laws_FnSwap.walk (P : laws_FnSwap.Pure) (a0 : Int) (a1 : Int) (a2 : Int) (w : World) (w0 : (Lit.int .u16 a0).wf = true) (w1 : (Lit.int .u32 a1).wf = true) (w2 : (Lit.int .i64 a2).wf = true) :
    Calls Try.prog 3 #[.int .u16 a0, .int .u32 a1, .int .i64 a2] w fun e w' => e = .returned (.bool true) ∧ Below w.heap.size w w' := by
  obtain ⟨k, h⟩ := P a0 a1 a2 w0 w1 w2
  refine (laws_FnSwap.calls k a0 a1 a2 true w h).mono ?_
  rintro e w' ⟨rfl, hd⟩
  exact ⟨rfl, hd.below⟩

end Go.Proofs.Ytbogknjgjbhagaa.PFnSwap
