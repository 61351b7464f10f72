/- Each structure read from its bytes. -/
import Derived.Test.YtbogknjgjbhagaaPar7
namespace Go.Proofs.Ytbogknjgjbhagaa
open Go.RowKit
set_option linter.unusedSimpArgs false
set_option linter.unusedVariables false

theorem leV_low1 (v : Int) (h : 0 ≤ v ∧ v < 256) : leV (lowB v 1) = v := by
  simp [lowB, List.range_succ, leV, byteLe]; omega
theorem leV_low2 (v : Int) (h : 0 ≤ v ∧ v < 65536) : leV (lowB v 2) = v := by
  simp [lowB, List.range_succ, leV, byteLe]; omega
theorem leV_low4 (v : Int) (h : 0 ≤ v ∧ v < 4294967296) : leV (lowB v 4) = v := by
  simp [lowB, List.range_succ, leV, byteLe]; omega

set_option maxHeartbeats 2000000 in
set_option maxRecDepth 100000 in
theorem decIfInfomsg_calls (b o n c : Nat) (a0 a1 a2 a3 a4 : Int) (w : World) (ha0 : 0 ≤ a0 ∧ a0 < 256) (ha1 : 0 ≤ a1 ∧ a1 < 65536) (ha2 : 0 ≤ a2 ∧ a2 < 2147483648) (ha3 : 0 ≤ a3 ∧ a3 < 4294967296) (ha4 : 0 ≤ a4 ∧ a4 < 4294967296) (hn : 16 ≤ n) (hmax : n ≤ 1000000) (hc : ∀ j u, (bytesC (lowB a0 1 ++ [0] ++ lowB a1 2 ++ lowB a2 4 ++ lowB a3 4 ++ lowB a4 4))[j]? = some u → w.cell? ⟨b, o + j, none⟩ = some u) :
    Calls Try.prog 132 #[.slice (some ⟨b, o, none⟩) n c] w fun e w' => ∃ g, e = .returned (.pointer (some ⟨g, 0, none⟩)) ∧ w'.heap[g]? = some (.cells #[.int .u8 a0, .int .u8 0, .int .u16 a1, .int .i32 a2, .int .u32 a3, .int .u32 a4] 147 (0, 0)) ∧ Below w.heap.size w w' := by
  have ha2' : 0 ≤ a2 ∧ a2 < 4294967296 := by omega
  have xa0 : IntKind.u8.wrap a0 = a0 := IntWalk.u8_in _ (by omega)
  have Ca0 : Hid (∀ j, j < 1 → w.cell? ⟨b, o + (0 + j), none⟩ = some (.int .u8 ((lowB a0 1).getD j 0))) := fun j hj => hc (0 + j) _ (by
    rcases (show j = 0 by omega) with rfl
    all_goals simp [bytesC, lowB, List.range_succ])
  have la0 := leV_low1 a0 ha0
  have xa1 : IntKind.u16.wrap a1 = a1 := IntWalk.u16_in _ (by omega)
  have Ca1 : Hid (∀ j, j < 2 → w.cell? ⟨b, o + (2 + j), none⟩ = some (.int .u8 ((lowB a1 2).getD j 0))) := fun j hj => hc (2 + j) _ (by
    rcases (show j = 0 ∨ j = 1 by omega) with rfl | rfl
    all_goals simp [bytesC, lowB, List.range_succ])
  have la1 := leV_low2 a1 ha1
  have xa2 : IntKind.i32.wrap a2 = a2 := IntWalk.i32_in _ (by omega)
  have Ca2 : Hid (∀ j, j < 4 → w.cell? ⟨b, o + (4 + j), none⟩ = some (.int .u8 ((lowB a2 4).getD j 0))) := fun j hj => hc (4 + j) _ (by
    rcases (show j = 0 ∨ j = 1 ∨ j = 2 ∨ j = 3 by omega) with rfl | rfl | rfl | rfl
    all_goals simp [bytesC, lowB, List.range_succ])
  have la2 := leV_low4 a2 ha2'
  have xa3 : IntKind.u32.wrap a3 = a3 := IntWalk.u32_in _ (by omega)
  have Ca3 : Hid (∀ j, j < 4 → w.cell? ⟨b, o + (8 + j), none⟩ = some (.int .u8 ((lowB a3 4).getD j 0))) := fun j hj => hc (8 + j) _ (by
    rcases (show j = 0 ∨ j = 1 ∨ j = 2 ∨ j = 3 by omega) with rfl | rfl | rfl | rfl
    all_goals simp [bytesC, lowB, List.range_succ])
  have la3 := leV_low4 a3 ha3
  have xa4 : IntKind.u32.wrap a4 = a4 := IntWalk.u32_in _ (by omega)
  have Ca4 : Hid (∀ j, j < 4 → w.cell? ⟨b, o + (12 + j), none⟩ = some (.int .u8 ((lowB a4 4).getD j 0))) := fun j hj => hc (12 + j) _ (by
    rcases (show j = 0 ∨ j = 1 ∨ j = 2 ∨ j = 3 by omega) with rfl | rfl | rfl | rfl
    all_goals simp [bytesC, lowB, List.range_succ])
  have la4 := leV_low4 a4 ha4
  have La0 := Lib.hid la0
  have La1 := Lib.hid la1
  have La2 := Lib.hid la2
  have La3 := Lib.hid la3
  have La4 := Lib.hid la4
  have HM : Hid (∀ (u : Obj) p v, w.cell? p = some v → (w.alloc u).cell? p = some v) := fun u p v h => by rw [((Below.refl _ w).alloc (Nat.le_refl _) u).cell (World.block_lt_of_cell? w _ h)]; exact h
  clear hc la0 la1 la2 la3 la4
  go_enter Try.func132, Try.ntmps132
  go_wp2_with fail
  refine (getLE_calls b o n c 0 1 0 1 (lowB a0 1) _ (lowB_all _ _) (lowB_length _ _) (by decide) (by omega) (by omega) rfl rfl (fun j hj => HM.out _ _ _ (Ca0.out j hj))).mono ?_
  rintro e w' ⟨rfl, rfl⟩
  rw [La0.out]
  go_wp2_with fail
  refine (getLE_calls b o n c 2 2 2 2 (lowB a1 2) _ (lowB_all _ _) (lowB_length _ _) (by decide) (by omega) (by omega) rfl rfl (fun j hj => HM.out _ _ _ (Ca1.out j hj))).mono ?_
  rintro e w' ⟨rfl, rfl⟩
  rw [La1.out]
  go_wp2_with fail
  refine (getLE_calls b o n c 4 4 4 4 (lowB a2 4) _ (lowB_all _ _) (lowB_length _ _) (by decide) (by omega) (by omega) rfl rfl (fun j hj => HM.out _ _ _ (Ca2.out j hj))).mono ?_
  rintro e w' ⟨rfl, rfl⟩
  rw [La2.out]
  go_wp2_with fail
  refine (getLE_calls b o n c 8 4 8 4 (lowB a3 4) _ (lowB_all _ _) (lowB_length _ _) (by decide) (by omega) (by omega) rfl rfl (fun j hj => HM.out _ _ _ (Ca3.out j hj))).mono ?_
  rintro e w' ⟨rfl, rfl⟩
  rw [La3.out]
  go_wp2_with fail
  refine (getLE_calls b o n c 12 4 12 4 (lowB a4 4) _ (lowB_all _ _) (lowB_length _ _) (by decide) (by omega) (by omega) rfl rfl (fun j hj => HM.out _ _ _ (Ca4.out j hj))).mono ?_
  rintro e w' ⟨rfl, rfl⟩
  rw [La4.out]
  go_wp2_with fail
  go_ret
  exact ⟨_, rfl, heap_alloc_new w _, (Below.refl _ w).alloc (Nat.le_refl _) _⟩

set_option maxHeartbeats 1000000 in
set_option maxRecDepth 100000 in
theorem desIfInfomsg_calls (b o n c : Nat) (a0 a1 a2 a3 a4 : Int) (w : World) (ha0 : 0 ≤ a0 ∧ a0 < 256) (ha1 : 0 ≤ a1 ∧ a1 < 65536) (ha2 : 0 ≤ a2 ∧ a2 < 2147483648) (ha3 : 0 ≤ a3 ∧ a3 < 4294967296) (ha4 : 0 ≤ a4 ∧ a4 < 4294967296) (hn : 16 ≤ n) (hnc : n ≤ c) (hmax : n ≤ 1000000) (hc : ∀ j u, (bytesC (lowB a0 1 ++ [0] ++ lowB a1 2 ++ lowB a2 4 ++ lowB a3 4 ++ lowB a4 4))[j]? = some u → w.cell? ⟨b, o + j, none⟩ = some u) :
    Calls Try.prog 110 #[.slice (some ⟨b, o, none⟩) n c] w fun e w' => ∃ g, e = .returned (.pointer (some ⟨g, 0, none⟩)) ∧ w'.heap[g]? = some (.cells #[.int .u8 a0, .int .u8 0, .int .u16 a1, .int .i32 a2, .int .u32 a3, .int .u32 a4] 147 (0, 0)) ∧ Below w.heap.size w w' := by
  have HC := Lib.hid hc
  clear hc
  have q1 : (16 : Int) ≤ (n : Int) := by omega
  have q2 : (16 : Int) ≤ (c : Int) := by omega
  have q3 : ¬ c = 0 := by omega
  go_enter Try.func110, Try.ntmps110
  go_wp2_with fail
  refine (decIfInfomsg_calls b o 16 c a0 a1 a2 a3 a4 w ha0 ha1 ha2 ha3 ha4 (by omega) (by omega) HC.out).mono ?_
  rintro e w1 ⟨g, rfl, hg, hb⟩
  have HG := Lib.hid hg
  have HB := Lib.hid hb
  clear hg hb
  go_wp2_with fail
  go_ret
  exact ⟨g, rfl, HG.out, HB.out⟩

set_option maxHeartbeats 2000000 in
set_option maxRecDepth 100000 in
theorem decIfAddrmsg_calls (b o n c : Nat) (a0 a1 a2 a3 a4 : Int) (w : World) (ha0 : 0 ≤ a0 ∧ a0 < 256) (ha1 : 0 ≤ a1 ∧ a1 < 256) (ha2 : 0 ≤ a2 ∧ a2 < 256) (ha3 : 0 ≤ a3 ∧ a3 < 256) (ha4 : 0 ≤ a4 ∧ a4 < 4294967296) (hn : 8 ≤ n) (hmax : n ≤ 1000000) (hc : ∀ j u, (bytesC (lowB a0 1 ++ lowB a1 1 ++ lowB a2 1 ++ lowB a3 1 ++ lowB a4 4))[j]? = some u → w.cell? ⟨b, o + j, none⟩ = some u) :
    Calls Try.prog 133 #[.slice (some ⟨b, o, none⟩) n c] w fun e w' => ∃ g, e = .returned (.pointer (some ⟨g, 0, none⟩)) ∧ w'.heap[g]? = some (.cells #[.int .u8 a0, .int .u8 a1, .int .u8 a2, .int .u8 a3, .int .u32 a4] 153 (0, 0)) ∧ Below w.heap.size w w' := by
  have xa0 : IntKind.u8.wrap a0 = a0 := IntWalk.u8_in _ (by omega)
  have Ca0 : Hid (∀ j, j < 1 → w.cell? ⟨b, o + (0 + j), none⟩ = some (.int .u8 ((lowB a0 1).getD j 0))) := fun j hj => hc (0 + j) _ (by
    rcases (show j = 0 by omega) with rfl
    all_goals simp [bytesC, lowB, List.range_succ])
  have la0 := leV_low1 a0 ha0
  have xa1 : IntKind.u8.wrap a1 = a1 := IntWalk.u8_in _ (by omega)
  have Ca1 : Hid (∀ j, j < 1 → w.cell? ⟨b, o + (1 + j), none⟩ = some (.int .u8 ((lowB a1 1).getD j 0))) := fun j hj => hc (1 + j) _ (by
    rcases (show j = 0 by omega) with rfl
    all_goals simp [bytesC, lowB, List.range_succ])
  have la1 := leV_low1 a1 ha1
  have xa2 : IntKind.u8.wrap a2 = a2 := IntWalk.u8_in _ (by omega)
  have Ca2 : Hid (∀ j, j < 1 → w.cell? ⟨b, o + (2 + j), none⟩ = some (.int .u8 ((lowB a2 1).getD j 0))) := fun j hj => hc (2 + j) _ (by
    rcases (show j = 0 by omega) with rfl
    all_goals simp [bytesC, lowB, List.range_succ])
  have la2 := leV_low1 a2 ha2
  have xa3 : IntKind.u8.wrap a3 = a3 := IntWalk.u8_in _ (by omega)
  have Ca3 : Hid (∀ j, j < 1 → w.cell? ⟨b, o + (3 + j), none⟩ = some (.int .u8 ((lowB a3 1).getD j 0))) := fun j hj => hc (3 + j) _ (by
    rcases (show j = 0 by omega) with rfl
    all_goals simp [bytesC, lowB, List.range_succ])
  have la3 := leV_low1 a3 ha3
  have xa4 : IntKind.u32.wrap a4 = a4 := IntWalk.u32_in _ (by omega)
  have Ca4 : Hid (∀ j, j < 4 → w.cell? ⟨b, o + (4 + j), none⟩ = some (.int .u8 ((lowB a4 4).getD j 0))) := fun j hj => hc (4 + j) _ (by
    rcases (show j = 0 ∨ j = 1 ∨ j = 2 ∨ j = 3 by omega) with rfl | rfl | rfl | rfl
    all_goals simp [bytesC, lowB, List.range_succ])
  have la4 := leV_low4 a4 ha4
  have La0 := Lib.hid la0
  have La1 := Lib.hid la1
  have La2 := Lib.hid la2
  have La3 := Lib.hid la3
  have La4 := Lib.hid la4
  have HM : Hid (∀ (u : Obj) p v, w.cell? p = some v → (w.alloc u).cell? p = some v) := fun u p v h => by rw [((Below.refl _ w).alloc (Nat.le_refl _) u).cell (World.block_lt_of_cell? w _ h)]; exact h
  clear hc la0 la1 la2 la3 la4
  go_enter Try.func133, Try.ntmps133
  go_wp2_with fail
  refine (getLE_calls b o n c 0 1 0 1 (lowB a0 1) _ (lowB_all _ _) (lowB_length _ _) (by decide) (by omega) (by omega) rfl rfl (fun j hj => HM.out _ _ _ (Ca0.out j hj))).mono ?_
  rintro e w' ⟨rfl, rfl⟩
  rw [La0.out]
  go_wp2_with fail
  refine (getLE_calls b o n c 1 1 1 1 (lowB a1 1) _ (lowB_all _ _) (lowB_length _ _) (by decide) (by omega) (by omega) rfl rfl (fun j hj => HM.out _ _ _ (Ca1.out j hj))).mono ?_
  rintro e w' ⟨rfl, rfl⟩
  rw [La1.out]
  go_wp2_with fail
  refine (getLE_calls b o n c 2 1 2 1 (lowB a2 1) _ (lowB_all _ _) (lowB_length _ _) (by decide) (by omega) (by omega) rfl rfl (fun j hj => HM.out _ _ _ (Ca2.out j hj))).mono ?_
  rintro e w' ⟨rfl, rfl⟩
  rw [La2.out]
  go_wp2_with fail
  refine (getLE_calls b o n c 3 1 3 1 (lowB a3 1) _ (lowB_all _ _) (lowB_length _ _) (by decide) (by omega) (by omega) rfl rfl (fun j hj => HM.out _ _ _ (Ca3.out j hj))).mono ?_
  rintro e w' ⟨rfl, rfl⟩
  rw [La3.out]
  go_wp2_with fail
  refine (getLE_calls b o n c 4 4 4 4 (lowB a4 4) _ (lowB_all _ _) (lowB_length _ _) (by decide) (by omega) (by omega) rfl rfl (fun j hj => HM.out _ _ _ (Ca4.out j hj))).mono ?_
  rintro e w' ⟨rfl, rfl⟩
  rw [La4.out]
  go_wp2_with fail
  go_ret
  exact ⟨_, rfl, heap_alloc_new w _, (Below.refl _ w).alloc (Nat.le_refl _) _⟩

set_option maxHeartbeats 1000000 in
set_option maxRecDepth 100000 in
theorem desIfAddrmsg_calls (b o n c : Nat) (a0 a1 a2 a3 a4 : Int) (w : World) (ha0 : 0 ≤ a0 ∧ a0 < 256) (ha1 : 0 ≤ a1 ∧ a1 < 256) (ha2 : 0 ≤ a2 ∧ a2 < 256) (ha3 : 0 ≤ a3 ∧ a3 < 256) (ha4 : 0 ≤ a4 ∧ a4 < 4294967296) (hn : 8 ≤ n) (hnc : n ≤ c) (hmax : n ≤ 1000000) (hc : ∀ j u, (bytesC (lowB a0 1 ++ lowB a1 1 ++ lowB a2 1 ++ lowB a3 1 ++ lowB a4 4))[j]? = some u → w.cell? ⟨b, o + j, none⟩ = some u) :
    Calls Try.prog 111 #[.slice (some ⟨b, o, none⟩) n c] w fun e w' => ∃ g, e = .returned (.pointer (some ⟨g, 0, none⟩)) ∧ w'.heap[g]? = some (.cells #[.int .u8 a0, .int .u8 a1, .int .u8 a2, .int .u8 a3, .int .u32 a4] 153 (0, 0)) ∧ Below w.heap.size w w' := by
  have HC := Lib.hid hc
  clear hc
  have q1 : (8 : Int) ≤ (n : Int) := by omega
  have q2 : (8 : Int) ≤ (c : Int) := by omega
  have q3 : ¬ c = 0 := by omega
  go_enter Try.func111, Try.ntmps111
  go_wp2_with fail
  refine (decIfAddrmsg_calls b o 8 c a0 a1 a2 a3 a4 w ha0 ha1 ha2 ha3 ha4 (by omega) (by omega) HC.out).mono ?_
  rintro e w1 ⟨g, rfl, hg, hb⟩
  have HG := Lib.hid hg
  have HB := Lib.hid hb
  clear hg hb
  go_wp2_with fail
  go_ret
  exact ⟨g, rfl, HG.out, HB.out⟩

set_option maxHeartbeats 2000000 in
set_option maxRecDepth 100000 in
theorem decIfaCacheInfo_calls (b o n c : Nat) (a0 a1 a2 a3 : Int) (w : World) (ha0 : 0 ≤ a0 ∧ a0 < 4294967296) (ha1 : 0 ≤ a1 ∧ a1 < 4294967296) (ha2 : 0 ≤ a2 ∧ a2 < 4294967296) (ha3 : 0 ≤ a3 ∧ a3 < 4294967296) (hn : 16 ≤ n) (hmax : n ≤ 1000000) (hc : ∀ j u, (bytesC (lowB a0 4 ++ lowB a1 4 ++ lowB a2 4 ++ lowB a3 4))[j]? = some u → w.cell? ⟨b, o + j, none⟩ = some u) :
    Calls Try.prog 134 #[.slice (some ⟨b, o, none⟩) n c] w fun e w' => ∃ g, e = .returned (.pointer (some ⟨g, 0, none⟩)) ∧ w'.heap[g]? = some (.cells #[.int .u32 a0, .int .u32 a1, .int .u32 a2, .int .u32 a3] 158 (0, 0)) ∧ Below w.heap.size w w' := by
  have xa0 : IntKind.u32.wrap a0 = a0 := IntWalk.u32_in _ (by omega)
  have Ca0 : Hid (∀ j, j < 4 → w.cell? ⟨b, o + (0 + j), none⟩ = some (.int .u8 ((lowB a0 4).getD j 0))) := fun j hj => hc (0 + j) _ (by
    rcases (show j = 0 ∨ j = 1 ∨ j = 2 ∨ j = 3 by omega) with rfl | rfl | rfl | rfl
    all_goals simp [bytesC, lowB, List.range_succ])
  have la0 := leV_low4 a0 ha0
  have xa1 : IntKind.u32.wrap a1 = a1 := IntWalk.u32_in _ (by omega)
  have Ca1 : Hid (∀ j, j < 4 → w.cell? ⟨b, o + (4 + j), none⟩ = some (.int .u8 ((lowB a1 4).getD j 0))) := fun j hj => hc (4 + j) _ (by
    rcases (show j = 0 ∨ j = 1 ∨ j = 2 ∨ j = 3 by omega) with rfl | rfl | rfl | rfl
    all_goals simp [bytesC, lowB, List.range_succ])
  have la1 := leV_low4 a1 ha1
  have xa2 : IntKind.u32.wrap a2 = a2 := IntWalk.u32_in _ (by omega)
  have Ca2 : Hid (∀ j, j < 4 → w.cell? ⟨b, o + (8 + j), none⟩ = some (.int .u8 ((lowB a2 4).getD j 0))) := fun j hj => hc (8 + j) _ (by
    rcases (show j = 0 ∨ j = 1 ∨ j = 2 ∨ j = 3 by omega) with rfl | rfl | rfl | rfl
    all_goals simp [bytesC, lowB, List.range_succ])
  have la2 := leV_low4 a2 ha2
  have xa3 : IntKind.u32.wrap a3 = a3 := IntWalk.u32_in _ (by omega)
  have Ca3 : Hid (∀ j, j < 4 → w.cell? ⟨b, o + (12 + j), none⟩ = some (.int .u8 ((lowB a3 4).getD j 0))) := fun j hj => hc (12 + j) _ (by
    rcases (show j = 0 ∨ j = 1 ∨ j = 2 ∨ j = 3 by omega) with rfl | rfl | rfl | rfl
    all_goals simp [bytesC, lowB, List.range_succ])
  have la3 := leV_low4 a3 ha3
  have La0 := Lib.hid la0
  have La1 := Lib.hid la1
  have La2 := Lib.hid la2
  have La3 := Lib.hid la3
  have HM : Hid (∀ (u : Obj) p v, w.cell? p = some v → (w.alloc u).cell? p = some v) := fun u p v h => by rw [((Below.refl _ w).alloc (Nat.le_refl _) u).cell (World.block_lt_of_cell? w _ h)]; exact h
  clear hc la0 la1 la2 la3
  go_enter Try.func134, Try.ntmps134
  go_wp2_with fail
  refine (getLE_calls b o n c 0 4 0 4 (lowB a0 4) _ (lowB_all _ _) (lowB_length _ _) (by decide) (by omega) (by omega) rfl rfl (fun j hj => HM.out _ _ _ (Ca0.out j hj))).mono ?_
  rintro e w' ⟨rfl, rfl⟩
  rw [La0.out]
  go_wp2_with fail
  refine (getLE_calls b o n c 4 4 4 4 (lowB a1 4) _ (lowB_all _ _) (lowB_length _ _) (by decide) (by omega) (by omega) rfl rfl (fun j hj => HM.out _ _ _ (Ca1.out j hj))).mono ?_
  rintro e w' ⟨rfl, rfl⟩
  rw [La1.out]
  go_wp2_with fail
  refine (getLE_calls b o n c 8 4 8 4 (lowB a2 4) _ (lowB_all _ _) (lowB_length _ _) (by decide) (by omega) (by omega) rfl rfl (fun j hj => HM.out _ _ _ (Ca2.out j hj))).mono ?_
  rintro e w' ⟨rfl, rfl⟩
  rw [La2.out]
  go_wp2_with fail
  refine (getLE_calls b o n c 12 4 12 4 (lowB a3 4) _ (lowB_all _ _) (lowB_length _ _) (by decide) (by omega) (by omega) rfl rfl (fun j hj => HM.out _ _ _ (Ca3.out j hj))).mono ?_
  rintro e w' ⟨rfl, rfl⟩
  rw [La3.out]
  go_wp2_with fail
  go_ret
  exact ⟨_, rfl, heap_alloc_new w _, (Below.refl _ w).alloc (Nat.le_refl _) _⟩

set_option maxHeartbeats 1000000 in
set_option maxRecDepth 100000 in
theorem desIfaCacheInfo_calls (b o n c : Nat) (a0 a1 a2 a3 : Int) (w : World) (ha0 : 0 ≤ a0 ∧ a0 < 4294967296) (ha1 : 0 ≤ a1 ∧ a1 < 4294967296) (ha2 : 0 ≤ a2 ∧ a2 < 4294967296) (ha3 : 0 ≤ a3 ∧ a3 < 4294967296) (hn : 16 ≤ n) (hnc : n ≤ c) (hmax : n ≤ 1000000) (hc : ∀ j u, (bytesC (lowB a0 4 ++ lowB a1 4 ++ lowB a2 4 ++ lowB a3 4))[j]? = some u → w.cell? ⟨b, o + j, none⟩ = some u) :
    Calls Try.prog 112 #[.slice (some ⟨b, o, none⟩) n c] w fun e w' => ∃ g, e = .returned (.pointer (some ⟨g, 0, none⟩)) ∧ w'.heap[g]? = some (.cells #[.int .u32 a0, .int .u32 a1, .int .u32 a2, .int .u32 a3] 158 (0, 0)) ∧ Below w.heap.size w w' := by
  have HC := Lib.hid hc
  clear hc
  have q1 : (16 : Int) ≤ (n : Int) := by omega
  have q2 : (16 : Int) ≤ (c : Int) := by omega
  have q3 : ¬ c = 0 := by omega
  go_enter Try.func112, Try.ntmps112
  go_wp2_with fail
  refine (decIfaCacheInfo_calls b o 16 c a0 a1 a2 a3 w ha0 ha1 ha2 ha3 (by omega) (by omega) HC.out).mono ?_
  rintro e w1 ⟨g, rfl, hg, hb⟩
  have HG := Lib.hid hg
  have HB := Lib.hid hb
  clear hg hb
  go_wp2_with fail
  go_ret
  exact ⟨g, rfl, HG.out, HB.out⟩

set_option maxHeartbeats 2000000 in
set_option maxRecDepth 100000 in
theorem decRtMsg_calls (b o n c : Nat) (a0 a1 a2 a3 a4 a5 a6 a7 a8 : Int) (w : World) (ha0 : 0 ≤ a0 ∧ a0 < 256) (ha1 : 0 ≤ a1 ∧ a1 < 256) (ha2 : 0 ≤ a2 ∧ a2 < 256) (ha3 : 0 ≤ a3 ∧ a3 < 256) (ha4 : 0 ≤ a4 ∧ a4 < 256) (ha5 : 0 ≤ a5 ∧ a5 < 256) (ha6 : 0 ≤ a6 ∧ a6 < 256) (ha7 : 0 ≤ a7 ∧ a7 < 256) (ha8 : 0 ≤ a8 ∧ a8 < 4294967296) (hn : 12 ≤ n) (hmax : n ≤ 1000000) (hc : ∀ j u, (bytesC (lowB a0 1 ++ lowB a1 1 ++ lowB a2 1 ++ lowB a3 1 ++ lowB a4 1 ++ lowB a5 1 ++ lowB a6 1 ++ lowB a7 1 ++ lowB a8 4))[j]? = some u → w.cell? ⟨b, o + j, none⟩ = some u) :
    Calls Try.prog 135 #[.slice (some ⟨b, o, none⟩) n c] w fun e w' => ∃ g, e = .returned (.pointer (some ⟨g, 0, none⟩)) ∧ w'.heap[g]? = some (.cells #[.int .u8 a0, .int .u8 a1, .int .u8 a2, .int .u8 a3, .int .u8 a4, .int .u8 a5, .int .u8 a6, .int .u8 a7, .int .u32 a8] 163 (0, 0)) ∧ Below w.heap.size w w' := by
  have xa0 : IntKind.u8.wrap a0 = a0 := IntWalk.u8_in _ (by omega)
  have Ca0 : Hid (∀ j, j < 1 → w.cell? ⟨b, o + (0 + j), none⟩ = some (.int .u8 ((lowB a0 1).getD j 0))) := fun j hj => hc (0 + j) _ (by
    rcases (show j = 0 by omega) with rfl
    all_goals simp [bytesC, lowB, List.range_succ])
  have la0 := leV_low1 a0 ha0
  have xa1 : IntKind.u8.wrap a1 = a1 := IntWalk.u8_in _ (by omega)
  have Ca1 : Hid (∀ j, j < 1 → w.cell? ⟨b, o + (1 + j), none⟩ = some (.int .u8 ((lowB a1 1).getD j 0))) := fun j hj => hc (1 + j) _ (by
    rcases (show j = 0 by omega) with rfl
    all_goals simp [bytesC, lowB, List.range_succ])
  have la1 := leV_low1 a1 ha1
  have xa2 : IntKind.u8.wrap a2 = a2 := IntWalk.u8_in _ (by omega)
  have Ca2 : Hid (∀ j, j < 1 → w.cell? ⟨b, o + (2 + j), none⟩ = some (.int .u8 ((lowB a2 1).getD j 0))) := fun j hj => hc (2 + j) _ (by
    rcases (show j = 0 by omega) with rfl
    all_goals simp [bytesC, lowB, List.range_succ])
  have la2 := leV_low1 a2 ha2
  have xa3 : IntKind.u8.wrap a3 = a3 := IntWalk.u8_in _ (by omega)
  have Ca3 : Hid (∀ j, j < 1 → w.cell? ⟨b, o + (3 + j), none⟩ = some (.int .u8 ((lowB a3 1).getD j 0))) := fun j hj => hc (3 + j) _ (by
    rcases (show j = 0 by omega) with rfl
    all_goals simp [bytesC, lowB, List.range_succ])
  have la3 := leV_low1 a3 ha3
  have xa4 : IntKind.u8.wrap a4 = a4 := IntWalk.u8_in _ (by omega)
  have Ca4 : Hid (∀ j, j < 1 → w.cell? ⟨b, o + (4 + j), none⟩ = some (.int .u8 ((lowB a4 1).getD j 0))) := fun j hj => hc (4 + j) _ (by
    rcases (show j = 0 by omega) with rfl
    all_goals simp [bytesC, lowB, List.range_succ])
  have la4 := leV_low1 a4 ha4
  have xa5 : IntKind.u8.wrap a5 = a5 := IntWalk.u8_in _ (by omega)
  have Ca5 : Hid (∀ j, j < 1 → w.cell? ⟨b, o + (5 + j), none⟩ = some (.int .u8 ((lowB a5 1).getD j 0))) := fun j hj => hc (5 + j) _ (by
    rcases (show j = 0 by omega) with rfl
    all_goals simp [bytesC, lowB, List.range_succ])
  have la5 := leV_low1 a5 ha5
  have xa6 : IntKind.u8.wrap a6 = a6 := IntWalk.u8_in _ (by omega)
  have Ca6 : Hid (∀ j, j < 1 → w.cell? ⟨b, o + (6 + j), none⟩ = some (.int .u8 ((lowB a6 1).getD j 0))) := fun j hj => hc (6 + j) _ (by
    rcases (show j = 0 by omega) with rfl
    all_goals simp [bytesC, lowB, List.range_succ])
  have la6 := leV_low1 a6 ha6
  have xa7 : IntKind.u8.wrap a7 = a7 := IntWalk.u8_in _ (by omega)
  have Ca7 : Hid (∀ j, j < 1 → w.cell? ⟨b, o + (7 + j), none⟩ = some (.int .u8 ((lowB a7 1).getD j 0))) := fun j hj => hc (7 + j) _ (by
    rcases (show j = 0 by omega) with rfl
    all_goals simp [bytesC, lowB, List.range_succ])
  have la7 := leV_low1 a7 ha7
  have xa8 : IntKind.u32.wrap a8 = a8 := IntWalk.u32_in _ (by omega)
  have Ca8 : Hid (∀ j, j < 4 → w.cell? ⟨b, o + (8 + j), none⟩ = some (.int .u8 ((lowB a8 4).getD j 0))) := fun j hj => hc (8 + j) _ (by
    rcases (show j = 0 ∨ j = 1 ∨ j = 2 ∨ j = 3 by omega) with rfl | rfl | rfl | rfl
    all_goals simp [bytesC, lowB, List.range_succ])
  have la8 := leV_low4 a8 ha8
  have La0 := Lib.hid la0
  have La1 := Lib.hid la1
  have La2 := Lib.hid la2
  have La3 := Lib.hid la3
  have La4 := Lib.hid la4
  have La5 := Lib.hid la5
  have La6 := Lib.hid la6
  have La7 := Lib.hid la7
  have La8 := Lib.hid la8
  have HM : Hid (∀ (u : Obj) p v, w.cell? p = some v → (w.alloc u).cell? p = some v) := fun u p v h => by rw [((Below.refl _ w).alloc (Nat.le_refl _) u).cell (World.block_lt_of_cell? w _ h)]; exact h
  clear hc la0 la1 la2 la3 la4 la5 la6 la7 la8
  go_enter Try.func135, Try.ntmps135
  go_wp2_with fail
  refine (getLE_calls b o n c 0 1 0 1 (lowB a0 1) _ (lowB_all _ _) (lowB_length _ _) (by decide) (by omega) (by omega) rfl rfl (fun j hj => HM.out _ _ _ (Ca0.out j hj))).mono ?_
  rintro e w' ⟨rfl, rfl⟩
  rw [La0.out]
  go_wp2_with fail
  refine (getLE_calls b o n c 1 1 1 1 (lowB a1 1) _ (lowB_all _ _) (lowB_length _ _) (by decide) (by omega) (by omega) rfl rfl (fun j hj => HM.out _ _ _ (Ca1.out j hj))).mono ?_
  rintro e w' ⟨rfl, rfl⟩
  rw [La1.out]
  go_wp2_with fail
  refine (getLE_calls b o n c 2 1 2 1 (lowB a2 1) _ (lowB_all _ _) (lowB_length _ _) (by decide) (by omega) (by omega) rfl rfl (fun j hj => HM.out _ _ _ (Ca2.out j hj))).mono ?_
  rintro e w' ⟨rfl, rfl⟩
  rw [La2.out]
  go_wp2_with fail
  refine (getLE_calls b o n c 3 1 3 1 (lowB a3 1) _ (lowB_all _ _) (lowB_length _ _) (by decide) (by omega) (by omega) rfl rfl (fun j hj => HM.out _ _ _ (Ca3.out j hj))).mono ?_
  rintro e w' ⟨rfl, rfl⟩
  rw [La3.out]
  go_wp2_with fail
  refine (getLE_calls b o n c 4 1 4 1 (lowB a4 1) _ (lowB_all _ _) (lowB_length _ _) (by decide) (by omega) (by omega) rfl rfl (fun j hj => HM.out _ _ _ (Ca4.out j hj))).mono ?_
  rintro e w' ⟨rfl, rfl⟩
  rw [La4.out]
  go_wp2_with fail
  refine (getLE_calls b o n c 5 1 5 1 (lowB a5 1) _ (lowB_all _ _) (lowB_length _ _) (by decide) (by omega) (by omega) rfl rfl (fun j hj => HM.out _ _ _ (Ca5.out j hj))).mono ?_
  rintro e w' ⟨rfl, rfl⟩
  rw [La5.out]
  go_wp2_with fail
  refine (getLE_calls b o n c 6 1 6 1 (lowB a6 1) _ (lowB_all _ _) (lowB_length _ _) (by decide) (by omega) (by omega) rfl rfl (fun j hj => HM.out _ _ _ (Ca6.out j hj))).mono ?_
  rintro e w' ⟨rfl, rfl⟩
  rw [La6.out]
  go_wp2_with fail
  refine (getLE_calls b o n c 7 1 7 1 (lowB a7 1) _ (lowB_all _ _) (lowB_length _ _) (by decide) (by omega) (by omega) rfl rfl (fun j hj => HM.out _ _ _ (Ca7.out j hj))).mono ?_
  rintro e w' ⟨rfl, rfl⟩
  rw [La7.out]
  go_wp2_with fail
  refine (getLE_calls b o n c 8 4 8 4 (lowB a8 4) _ (lowB_all _ _) (lowB_length _ _) (by decide) (by omega) (by omega) rfl rfl (fun j hj => HM.out _ _ _ (Ca8.out j hj))).mono ?_
  rintro e w' ⟨rfl, rfl⟩
  rw [La8.out]
  go_wp2_with fail
  go_ret
  exact ⟨_, rfl, heap_alloc_new w _, (Below.refl _ w).alloc (Nat.le_refl _) _⟩

set_option maxHeartbeats 1000000 in
set_option maxRecDepth 100000 in
theorem desRtMsg_calls (b o n c : Nat) (a0 a1 a2 a3 a4 a5 a6 a7 a8 : Int) (w : World) (ha0 : 0 ≤ a0 ∧ a0 < 256) (ha1 : 0 ≤ a1 ∧ a1 < 256) (ha2 : 0 ≤ a2 ∧ a2 < 256) (ha3 : 0 ≤ a3 ∧ a3 < 256) (ha4 : 0 ≤ a4 ∧ a4 < 256) (ha5 : 0 ≤ a5 ∧ a5 < 256) (ha6 : 0 ≤ a6 ∧ a6 < 256) (ha7 : 0 ≤ a7 ∧ a7 < 256) (ha8 : 0 ≤ a8 ∧ a8 < 4294967296) (hn : 12 ≤ n) (hnc : n ≤ c) (hmax : n ≤ 1000000) (hc : ∀ j u, (bytesC (lowB a0 1 ++ lowB a1 1 ++ lowB a2 1 ++ lowB a3 1 ++ lowB a4 1 ++ lowB a5 1 ++ lowB a6 1 ++ lowB a7 1 ++ lowB a8 4))[j]? = some u → w.cell? ⟨b, o + j, none⟩ = some u) :
    Calls Try.prog 113 #[.slice (some ⟨b, o, none⟩) n c] w fun e w' => ∃ g, e = .returned (.pointer (some ⟨g, 0, none⟩)) ∧ w'.heap[g]? = some (.cells #[.int .u8 a0, .int .u8 a1, .int .u8 a2, .int .u8 a3, .int .u8 a4, .int .u8 a5, .int .u8 a6, .int .u8 a7, .int .u32 a8] 163 (0, 0)) ∧ Below w.heap.size w w' := by
  have HC := Lib.hid hc
  clear hc
  have q1 : (12 : Int) ≤ (n : Int) := by omega
  have q2 : (12 : Int) ≤ (c : Int) := by omega
  have q3 : ¬ c = 0 := by omega
  go_enter Try.func113, Try.ntmps113
  go_wp2_with fail
  refine (decRtMsg_calls b o 12 c a0 a1 a2 a3 a4 a5 a6 a7 a8 w ha0 ha1 ha2 ha3 ha4 ha5 ha6 ha7 ha8 (by omega) (by omega) HC.out).mono ?_
  rintro e w1 ⟨g, rfl, hg, hb⟩
  have HG := Lib.hid hg
  have HB := Lib.hid hb
  clear hg hb
  go_wp2_with fail
  go_ret
  exact ⟨g, rfl, HG.out, HB.out⟩

set_option maxHeartbeats 2000000 in
set_option maxRecDepth 100000 in
theorem decGenlmsg_calls (b o n c : Nat) (a0 a1 : Int) (w : World) (ha0 : 0 ≤ a0 ∧ a0 < 256) (ha1 : 0 ≤ a1 ∧ a1 < 256) (hn : 4 ≤ n) (hmax : n ≤ 1000000) (hc : ∀ j u, (bytesC (lowB a0 1 ++ lowB a1 1 ++ [0, 0]))[j]? = some u → w.cell? ⟨b, o + j, none⟩ = some u) :
    Calls Try.prog 136 #[.slice (some ⟨b, o, none⟩) n c] w fun e w' => ∃ g, e = .returned (.pointer (some ⟨g, 0, none⟩)) ∧ w'.heap[g]? = some (.cells #[.int .u8 a0, .int .u8 a1] 172 (0, 0)) ∧ Below w.heap.size w w' := by
  have xa0 : IntKind.u8.wrap a0 = a0 := IntWalk.u8_in _ (by omega)
  have Ca0 : Hid (∀ j, j < 1 → w.cell? ⟨b, o + (0 + j), none⟩ = some (.int .u8 ((lowB a0 1).getD j 0))) := fun j hj => hc (0 + j) _ (by
    rcases (show j = 0 by omega) with rfl
    all_goals simp [bytesC, lowB, List.range_succ])
  have la0 := leV_low1 a0 ha0
  have xa1 : IntKind.u8.wrap a1 = a1 := IntWalk.u8_in _ (by omega)
  have Ca1 : Hid (∀ j, j < 1 → w.cell? ⟨b, o + (1 + j), none⟩ = some (.int .u8 ((lowB a1 1).getD j 0))) := fun j hj => hc (1 + j) _ (by
    rcases (show j = 0 by omega) with rfl
    all_goals simp [bytesC, lowB, List.range_succ])
  have la1 := leV_low1 a1 ha1
  have La0 := Lib.hid la0
  have La1 := Lib.hid la1
  have HM : Hid (∀ (u : Obj) p v, w.cell? p = some v → (w.alloc u).cell? p = some v) := fun u p v h => by rw [((Below.refl _ w).alloc (Nat.le_refl _) u).cell (World.block_lt_of_cell? w _ h)]; exact h
  clear hc la0 la1
  go_enter Try.func136, Try.ntmps136
  go_wp2_with fail
  refine (getLE_calls b o n c 0 1 0 1 (lowB a0 1) _ (lowB_all _ _) (lowB_length _ _) (by decide) (by omega) (by omega) rfl rfl (fun j hj => HM.out _ _ _ (Ca0.out j hj))).mono ?_
  rintro e w' ⟨rfl, rfl⟩
  rw [La0.out]
  go_wp2_with fail
  refine (getLE_calls b o n c 1 1 1 1 (lowB a1 1) _ (lowB_all _ _) (lowB_length _ _) (by decide) (by omega) (by omega) rfl rfl (fun j hj => HM.out _ _ _ (Ca1.out j hj))).mono ?_
  rintro e w' ⟨rfl, rfl⟩
  rw [La1.out]
  go_wp2_with fail
  go_ret
  exact ⟨_, rfl, heap_alloc_new w _, (Below.refl _ w).alloc (Nat.le_refl _) _⟩

set_option maxHeartbeats 1000000 in
set_option maxRecDepth 100000 in
theorem desGenlmsg_calls (b o n c : Nat) (a0 a1 : Int) (w : World) (ha0 : 0 ≤ a0 ∧ a0 < 256) (ha1 : 0 ≤ a1 ∧ a1 < 256) (hn : 4 ≤ n) (hnc : n ≤ c) (hmax : n ≤ 1000000) (hc : ∀ j u, (bytesC (lowB a0 1 ++ lowB a1 1 ++ [0, 0]))[j]? = some u → w.cell? ⟨b, o + j, none⟩ = some u) :
    Calls Try.prog 114 #[.slice (some ⟨b, o, none⟩) n c] w fun e w' => ∃ g, e = .returned (.pointer (some ⟨g, 0, none⟩)) ∧ w'.heap[g]? = some (.cells #[.int .u8 a0, .int .u8 a1] 172 (0, 0)) ∧ Below w.heap.size w w' := by
  have HC := Lib.hid hc
  clear hc
  have q1 : (4 : Int) ≤ (n : Int) := by omega
  have q2 : (4 : Int) ≤ (c : Int) := by omega
  have q3 : ¬ c = 0 := by omega
  go_enter Try.func114, Try.ntmps114
  go_wp2_with fail
  refine (decGenlmsg_calls b o 4 c a0 a1 w ha0 ha1 (by omega) (by omega) HC.out).mono ?_
  rintro e w1 ⟨g, rfl, hg, hb⟩
  have HG := Lib.hid hg
  have HB := Lib.hid hb
  clear hg hb
  go_wp2_with fail
  go_ret
  exact ⟨g, rfl, HG.out, HB.out⟩

set_option maxHeartbeats 2000000 in
set_option maxRecDepth 100000 in
theorem decCnMsgOp_calls (b o n c : Nat) (a0 a1 a2 a3 a4 a5 a6 : Int) (w : World) (ha0 : 0 ≤ a0 ∧ a0 < 4294967296) (ha1 : 0 ≤ a1 ∧ a1 < 4294967296) (ha2 : 0 ≤ a2 ∧ a2 < 4294967296) (ha3 : 0 ≤ a3 ∧ a3 < 4294967296) (ha4 : 0 ≤ a4 ∧ a4 < 65536) (ha5 : 0 ≤ a5 ∧ a5 < 65536) (ha6 : 0 ≤ a6 ∧ a6 < 4294967296) (hn : 24 ≤ n) (hmax : n ≤ 1000000) (hc : ∀ j u, (bytesC (lowB a0 4 ++ lowB a1 4 ++ lowB a2 4 ++ lowB a3 4 ++ lowB a4 2 ++ lowB a5 2 ++ lowB a6 4))[j]? = some u → w.cell? ⟨b, o + j, none⟩ = some u) :
    Calls Try.prog 137 #[.slice (some ⟨b, o, none⟩) n c] w fun e w' => ∃ g, e = .returned (.pointer (some ⟨g, 0, none⟩)) ∧ w'.heap[g]? = some (.cells #[.int .u32 a0, .int .u32 a1, .int .u32 a2, .int .u32 a3, .int .u16 a4, .int .u16 a5, .int .u32 a6] 180 (0, 0)) ∧ Below w.heap.size w w' := by
  have xa0 : IntKind.u32.wrap a0 = a0 := IntWalk.u32_in _ (by omega)
  have Ca0 : Hid (∀ j, j < 4 → w.cell? ⟨b, o + (0 + j), none⟩ = some (.int .u8 ((lowB a0 4).getD j 0))) := fun j hj => hc (0 + j) _ (by
    rcases (show j = 0 ∨ j = 1 ∨ j = 2 ∨ j = 3 by omega) with rfl | rfl | rfl | rfl
    all_goals simp [bytesC, lowB, List.range_succ])
  have la0 := leV_low4 a0 ha0
  have xa1 : IntKind.u32.wrap a1 = a1 := IntWalk.u32_in _ (by omega)
  have Ca1 : Hid (∀ j, j < 4 → w.cell? ⟨b, o + (4 + j), none⟩ = some (.int .u8 ((lowB a1 4).getD j 0))) := fun j hj => hc (4 + j) _ (by
    rcases (show j = 0 ∨ j = 1 ∨ j = 2 ∨ j = 3 by omega) with rfl | rfl | rfl | rfl
    all_goals simp [bytesC, lowB, List.range_succ])
  have la1 := leV_low4 a1 ha1
  have xa2 : IntKind.u32.wrap a2 = a2 := IntWalk.u32_in _ (by omega)
  have Ca2 : Hid (∀ j, j < 4 → w.cell? ⟨b, o + (8 + j), none⟩ = some (.int .u8 ((lowB a2 4).getD j 0))) := fun j hj => hc (8 + j) _ (by
    rcases (show j = 0 ∨ j = 1 ∨ j = 2 ∨ j = 3 by omega) with rfl | rfl | rfl | rfl
    all_goals simp [bytesC, lowB, List.range_succ])
  have la2 := leV_low4 a2 ha2
  have xa3 : IntKind.u32.wrap a3 = a3 := IntWalk.u32_in _ (by omega)
  have Ca3 : Hid (∀ j, j < 4 → w.cell? ⟨b, o + (12 + j), none⟩ = some (.int .u8 ((lowB a3 4).getD j 0))) := fun j hj => hc (12 + j) _ (by
    rcases (show j = 0 ∨ j = 1 ∨ j = 2 ∨ j = 3 by omega) with rfl | rfl | rfl | rfl
    all_goals simp [bytesC, lowB, List.range_succ])
  have la3 := leV_low4 a3 ha3
  have xa4 : IntKind.u16.wrap a4 = a4 := IntWalk.u16_in _ (by omega)
  have Ca4 : Hid (∀ j, j < 2 → w.cell? ⟨b, o + (16 + j), none⟩ = some (.int .u8 ((lowB a4 2).getD j 0))) := fun j hj => hc (16 + j) _ (by
    rcases (show j = 0 ∨ j = 1 by omega) with rfl | rfl
    all_goals simp [bytesC, lowB, List.range_succ])
  have la4 := leV_low2 a4 ha4
  have xa5 : IntKind.u16.wrap a5 = a5 := IntWalk.u16_in _ (by omega)
  have Ca5 : Hid (∀ j, j < 2 → w.cell? ⟨b, o + (18 + j), none⟩ = some (.int .u8 ((lowB a5 2).getD j 0))) := fun j hj => hc (18 + j) _ (by
    rcases (show j = 0 ∨ j = 1 by omega) with rfl | rfl
    all_goals simp [bytesC, lowB, List.range_succ])
  have la5 := leV_low2 a5 ha5
  have xa6 : IntKind.u32.wrap a6 = a6 := IntWalk.u32_in _ (by omega)
  have Ca6 : Hid (∀ j, j < 4 → w.cell? ⟨b, o + (20 + j), none⟩ = some (.int .u8 ((lowB a6 4).getD j 0))) := fun j hj => hc (20 + j) _ (by
    rcases (show j = 0 ∨ j = 1 ∨ j = 2 ∨ j = 3 by omega) with rfl | rfl | rfl | rfl
    all_goals simp [bytesC, lowB, List.range_succ])
  have la6 := leV_low4 a6 ha6
  have La0 := Lib.hid la0
  have La1 := Lib.hid la1
  have La2 := Lib.hid la2
  have La3 := Lib.hid la3
  have La4 := Lib.hid la4
  have La5 := Lib.hid la5
  have La6 := Lib.hid la6
  have HM : Hid (∀ (u : Obj) p v, w.cell? p = some v → (w.alloc u).cell? p = some v) := fun u p v h => by rw [((Below.refl _ w).alloc (Nat.le_refl _) u).cell (World.block_lt_of_cell? w _ h)]; exact h
  clear hc la0 la1 la2 la3 la4 la5 la6
  go_enter Try.func137, Try.ntmps137
  go_wp2_with fail
  refine (getLE_calls b o n c 0 4 0 4 (lowB a0 4) _ (lowB_all _ _) (lowB_length _ _) (by decide) (by omega) (by omega) rfl rfl (fun j hj => HM.out _ _ _ (Ca0.out j hj))).mono ?_
  rintro e w' ⟨rfl, rfl⟩
  rw [La0.out]
  go_wp2_with fail
  refine (getLE_calls b o n c 4 4 4 4 (lowB a1 4) _ (lowB_all _ _) (lowB_length _ _) (by decide) (by omega) (by omega) rfl rfl (fun j hj => HM.out _ _ _ (Ca1.out j hj))).mono ?_
  rintro e w' ⟨rfl, rfl⟩
  rw [La1.out]
  go_wp2_with fail
  refine (getLE_calls b o n c 8 4 8 4 (lowB a2 4) _ (lowB_all _ _) (lowB_length _ _) (by decide) (by omega) (by omega) rfl rfl (fun j hj => HM.out _ _ _ (Ca2.out j hj))).mono ?_
  rintro e w' ⟨rfl, rfl⟩
  rw [La2.out]
  go_wp2_with fail
  refine (getLE_calls b o n c 12 4 12 4 (lowB a3 4) _ (lowB_all _ _) (lowB_length _ _) (by decide) (by omega) (by omega) rfl rfl (fun j hj => HM.out _ _ _ (Ca3.out j hj))).mono ?_
  rintro e w' ⟨rfl, rfl⟩
  rw [La3.out]
  go_wp2_with fail
  refine (getLE_calls b o n c 16 2 16 2 (lowB a4 2) _ (lowB_all _ _) (lowB_length _ _) (by decide) (by omega) (by omega) rfl rfl (fun j hj => HM.out _ _ _ (Ca4.out j hj))).mono ?_
  rintro e w' ⟨rfl, rfl⟩
  rw [La4.out]
  go_wp2_with fail
  refine (getLE_calls b o n c 18 2 18 2 (lowB a5 2) _ (lowB_all _ _) (lowB_length _ _) (by decide) (by omega) (by omega) rfl rfl (fun j hj => HM.out _ _ _ (Ca5.out j hj))).mono ?_
  rintro e w' ⟨rfl, rfl⟩
  rw [La5.out]
  go_wp2_with fail
  refine (getLE_calls b o n c 20 4 20 4 (lowB a6 4) _ (lowB_all _ _) (lowB_length _ _) (by decide) (by omega) (by omega) rfl rfl (fun j hj => HM.out _ _ _ (Ca6.out j hj))).mono ?_
  rintro e w' ⟨rfl, rfl⟩
  rw [La6.out]
  go_wp2_with fail
  go_ret
  exact ⟨_, rfl, heap_alloc_new w _, (Below.refl _ w).alloc (Nat.le_refl _) _⟩

set_option maxHeartbeats 1000000 in
set_option maxRecDepth 100000 in
theorem desCnMsgOp_calls (b o n c : Nat) (a0 a1 a2 a3 a4 a5 a6 : Int) (w : World) (ha0 : 0 ≤ a0 ∧ a0 < 4294967296) (ha1 : 0 ≤ a1 ∧ a1 < 4294967296) (ha2 : 0 ≤ a2 ∧ a2 < 4294967296) (ha3 : 0 ≤ a3 ∧ a3 < 4294967296) (ha4 : 0 ≤ a4 ∧ a4 < 65536) (ha5 : 0 ≤ a5 ∧ a5 < 65536) (ha6 : 0 ≤ a6 ∧ a6 < 4294967296) (hn : 24 ≤ n) (hnc : n ≤ c) (hmax : n ≤ 1000000) (hc : ∀ j u, (bytesC (lowB a0 4 ++ lowB a1 4 ++ lowB a2 4 ++ lowB a3 4 ++ lowB a4 2 ++ lowB a5 2 ++ lowB a6 4))[j]? = some u → w.cell? ⟨b, o + j, none⟩ = some u) :
    Calls Try.prog 115 #[.slice (some ⟨b, o, none⟩) n c] w fun e w' => ∃ g, e = .returned (.pointer (some ⟨g, 0, none⟩)) ∧ w'.heap[g]? = some (.cells #[.int .u32 a0, .int .u32 a1, .int .u32 a2, .int .u32 a3, .int .u16 a4, .int .u16 a5, .int .u32 a6] 180 (0, 0)) ∧ Below w.heap.size w w' := by
  have HC := Lib.hid hc
  clear hc
  have q1 : (24 : Int) ≤ (n : Int) := by omega
  have q2 : (24 : Int) ≤ (c : Int) := by omega
  have q3 : ¬ c = 0 := by omega
  go_enter Try.func115, Try.ntmps115
  go_wp2_with fail
  refine (decCnMsgOp_calls b o 24 c a0 a1 a2 a3 a4 a5 a6 w ha0 ha1 ha2 ha3 ha4 ha5 ha6 (by omega) (by omega) HC.out).mono ?_
  rintro e w1 ⟨g, rfl, hg, hb⟩
  have HG := Lib.hid hg
  have HB := Lib.hid hb
  clear hg hb
  go_wp2_with fail
  go_ret
  exact ⟨g, rfl, HG.out, HB.out⟩

set_option maxHeartbeats 2000000 in
set_option maxRecDepth 100000 in
theorem decBridgeVlanInfo_calls (b o n c : Nat) (a0 a1 : Int) (w : World) (ha0 : 0 ≤ a0 ∧ a0 < 65536) (ha1 : 0 ≤ a1 ∧ a1 < 65536) (hn : 4 ≤ n) (hmax : n ≤ 1000000) (hc : ∀ j u, (bytesC (lowB a0 2 ++ lowB a1 2))[j]? = some u → w.cell? ⟨b, o + j, none⟩ = some u) :
    Calls Try.prog 138 #[.slice (some ⟨b, o, none⟩) n c] w fun e w' => ∃ g, e = .returned (.pointer (some ⟨g, 0, none⟩)) ∧ w'.heap[g]? = some (.cells #[.int .u16 a0, .int .u16 a1] 183 (0, 0)) ∧ Below w.heap.size w w' := by
  have xa0 : IntKind.u16.wrap a0 = a0 := IntWalk.u16_in _ (by omega)
  have Ca0 : Hid (∀ j, j < 2 → w.cell? ⟨b, o + (0 + j), none⟩ = some (.int .u8 ((lowB a0 2).getD j 0))) := fun j hj => hc (0 + j) _ (by
    rcases (show j = 0 ∨ j = 1 by omega) with rfl | rfl
    all_goals simp [bytesC, lowB, List.range_succ])
  have la0 := leV_low2 a0 ha0
  have xa1 : IntKind.u16.wrap a1 = a1 := IntWalk.u16_in _ (by omega)
  have Ca1 : Hid (∀ j, j < 2 → w.cell? ⟨b, o + (2 + j), none⟩ = some (.int .u8 ((lowB a1 2).getD j 0))) := fun j hj => hc (2 + j) _ (by
    rcases (show j = 0 ∨ j = 1 by omega) with rfl | rfl
    all_goals simp [bytesC, lowB, List.range_succ])
  have la1 := leV_low2 a1 ha1
  have La0 := Lib.hid la0
  have La1 := Lib.hid la1
  have HM : Hid (∀ (u : Obj) p v, w.cell? p = some v → (w.alloc u).cell? p = some v) := fun u p v h => by rw [((Below.refl _ w).alloc (Nat.le_refl _) u).cell (World.block_lt_of_cell? w _ h)]; exact h
  clear hc la0 la1
  go_enter Try.func138, Try.ntmps138
  go_wp2_with fail
  refine (getLE_calls b o n c 0 2 0 2 (lowB a0 2) _ (lowB_all _ _) (lowB_length _ _) (by decide) (by omega) (by omega) rfl rfl (fun j hj => HM.out _ _ _ (Ca0.out j hj))).mono ?_
  rintro e w' ⟨rfl, rfl⟩
  rw [La0.out]
  go_wp2_with fail
  refine (getLE_calls b o n c 2 2 2 2 (lowB a1 2) _ (lowB_all _ _) (lowB_length _ _) (by decide) (by omega) (by omega) rfl rfl (fun j hj => HM.out _ _ _ (Ca1.out j hj))).mono ?_
  rintro e w' ⟨rfl, rfl⟩
  rw [La1.out]
  go_wp2_with fail
  go_ret
  exact ⟨_, rfl, heap_alloc_new w _, (Below.refl _ w).alloc (Nat.le_refl _) _⟩

set_option maxHeartbeats 1000000 in
set_option maxRecDepth 100000 in
theorem desBridgeVlanInfo_calls (b o n c : Nat) (a0 a1 : Int) (w : World) (ha0 : 0 ≤ a0 ∧ a0 < 65536) (ha1 : 0 ≤ a1 ∧ a1 < 65536) (hn : 4 ≤ n) (hnc : n ≤ c) (hmax : n ≤ 1000000) (hc : ∀ j u, (bytesC (lowB a0 2 ++ lowB a1 2))[j]? = some u → w.cell? ⟨b, o + j, none⟩ = some u) :
    Calls Try.prog 116 #[.slice (some ⟨b, o, none⟩) n c] w fun e w' => ∃ g, e = .returned (.pointer (some ⟨g, 0, none⟩)) ∧ w'.heap[g]? = some (.cells #[.int .u16 a0, .int .u16 a1] 183 (0, 0)) ∧ Below w.heap.size w w' := by
  have HC := Lib.hid hc
  clear hc
  have q1 : (4 : Int) ≤ (n : Int) := by omega
  have q2 : (4 : Int) ≤ (c : Int) := by omega
  have q3 : ¬ c = 0 := by omega
  go_enter Try.func116, Try.ntmps116
  go_wp2_with fail
  refine (decBridgeVlanInfo_calls b o 4 c a0 a1 w ha0 ha1 (by omega) (by omega) HC.out).mono ?_
  rintro e w1 ⟨g, rfl, hg, hb⟩
  have HG := Lib.hid hg
  have HB := Lib.hid hb
  clear hg hb
  go_wp2_with fail
  go_ret
  exact ⟨g, rfl, HG.out, HB.out⟩

set_option maxHeartbeats 2000000 in
set_option maxRecDepth 100000 in
theorem decUint32Bitfield_calls (b o n c : Nat) (a0 a1 : Int) (w : World) (ha0 : 0 ≤ a0 ∧ a0 < 4294967296) (ha1 : 0 ≤ a1 ∧ a1 < 4294967296) (hn : 8 ≤ n) (hmax : n ≤ 1000000) (hc : ∀ j u, (bytesC (lowB a0 4 ++ lowB a1 4))[j]? = some u → w.cell? ⟨b, o + j, none⟩ = some u) :
    Calls Try.prog 139 #[.slice (some ⟨b, o, none⟩) n c] w fun e w' => ∃ g, e = .returned (.pointer (some ⟨g, 0, none⟩)) ∧ w'.heap[g]? = some (.cells #[.int .u32 a0, .int .u32 a1] 186 (0, 0)) ∧ Below w.heap.size w w' := by
  have xa0 : IntKind.u32.wrap a0 = a0 := IntWalk.u32_in _ (by omega)
  have Ca0 : Hid (∀ j, j < 4 → w.cell? ⟨b, o + (0 + j), none⟩ = some (.int .u8 ((lowB a0 4).getD j 0))) := fun j hj => hc (0 + j) _ (by
    rcases (show j = 0 ∨ j = 1 ∨ j = 2 ∨ j = 3 by omega) with rfl | rfl | rfl | rfl
    all_goals simp [bytesC, lowB, List.range_succ])
  have la0 := leV_low4 a0 ha0
  have xa1 : IntKind.u32.wrap a1 = a1 := IntWalk.u32_in _ (by omega)
  have Ca1 : Hid (∀ j, j < 4 → w.cell? ⟨b, o + (4 + j), none⟩ = some (.int .u8 ((lowB a1 4).getD j 0))) := fun j hj => hc (4 + j) _ (by
    rcases (show j = 0 ∨ j = 1 ∨ j = 2 ∨ j = 3 by omega) with rfl | rfl | rfl | rfl
    all_goals simp [bytesC, lowB, List.range_succ])
  have la1 := leV_low4 a1 ha1
  have La0 := Lib.hid la0
  have La1 := Lib.hid la1
  have HM : Hid (∀ (u : Obj) p v, w.cell? p = some v → (w.alloc u).cell? p = some v) := fun u p v h => by rw [((Below.refl _ w).alloc (Nat.le_refl _) u).cell (World.block_lt_of_cell? w _ h)]; exact h
  clear hc la0 la1
  go_enter Try.func139, Try.ntmps139
  go_wp2_with fail
  refine (getLE_calls b o n c 0 4 0 4 (lowB a0 4) _ (lowB_all _ _) (lowB_length _ _) (by decide) (by omega) (by omega) rfl rfl (fun j hj => HM.out _ _ _ (Ca0.out j hj))).mono ?_
  rintro e w' ⟨rfl, rfl⟩
  rw [La0.out]
  go_wp2_with fail
  refine (getLE_calls b o n c 4 4 4 4 (lowB a1 4) _ (lowB_all _ _) (lowB_length _ _) (by decide) (by omega) (by omega) rfl rfl (fun j hj => HM.out _ _ _ (Ca1.out j hj))).mono ?_
  rintro e w' ⟨rfl, rfl⟩
  rw [La1.out]
  go_wp2_with fail
  go_ret
  exact ⟨_, rfl, heap_alloc_new w _, (Below.refl _ w).alloc (Nat.le_refl _) _⟩

set_option maxHeartbeats 1000000 in
set_option maxRecDepth 100000 in
theorem desUint32Bitfield_calls (b o n c : Nat) (a0 a1 : Int) (w : World) (ha0 : 0 ≤ a0 ∧ a0 < 4294967296) (ha1 : 0 ≤ a1 ∧ a1 < 4294967296) (hn : 8 ≤ n) (hnc : n ≤ c) (hmax : n ≤ 1000000) (hc : ∀ j u, (bytesC (lowB a0 4 ++ lowB a1 4))[j]? = some u → w.cell? ⟨b, o + j, none⟩ = some u) :
    Calls Try.prog 117 #[.slice (some ⟨b, o, none⟩) n c] w fun e w' => ∃ g, e = .returned (.pointer (some ⟨g, 0, none⟩)) ∧ w'.heap[g]? = some (.cells #[.int .u32 a0, .int .u32 a1] 186 (0, 0)) ∧ Below w.heap.size w w' := by
  have HC := Lib.hid hc
  clear hc
  have q1 : (8 : Int) ≤ (n : Int) := by omega
  have q2 : (8 : Int) ≤ (c : Int) := by omega
  have q3 : ¬ c = 0 := by omega
  go_enter Try.func117, Try.ntmps117
  go_wp2_with fail
  refine (decUint32Bitfield_calls b o 8 c a0 a1 w ha0 ha1 (by omega) (by omega) HC.out).mono ?_
  rintro e w1 ⟨g, rfl, hg, hb⟩
  have HG := Lib.hid hg
  have HB := Lib.hid hb
  clear hg hb
  go_wp2_with fail
  go_ret
  exact ⟨g, rfl, HG.out, HB.out⟩

end Go.Proofs.Ytbogknjgjbhagaa
