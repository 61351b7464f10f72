/- The bytes of each structure. -/
import Derived.Test.YtbogknjgjbhagaaPar7
namespace Go.Proofs.Ytbogknjgjbhagaa
open Go.RowKit
set_option linter.unusedSimpArgs false
set_option linter.unusedVariables false

set_option maxHeartbeats 2000000 in
set_option maxRecDepth 100000 in
theorem encIfInfomsg_calls (p : Nat) (a0 a1 a2 a3 a4 : Int) (w : World) (ha0 : 0 ≤ a0 ∧ a0 < 256) (ha1 : 0 ≤ a1 ∧ a1 < 65536) (ha2 : 0 ≤ a2 ∧ a2 < 2147483648) (ha3 : 0 ≤ a3 ∧ a3 < 4294967296) (ha4 : 0 ≤ a4 ∧ a4 < 4294967296) (hp : w.heap[p]? = some (.cells #[.int .u8 a0, .int .u8 0, .int .u16 a1, .int .i32 a2, .int .u32 a3, .int .u32 a4] 147 (0, 0))) :
    Calls Try.prog 123 #[.pointer (some ⟨p, 0, none⟩)] w fun e w' => ∃ v, e = .returned v ∧ w'.ownsRow w.heap.size 5 1 v 16 (bytesC (lowB a0 1 ++ [0] ++ lowB a1 2 ++ lowB a2 4 ++ lowB a3 4 ++ lowB a4 4)) ∧ Below w.heap.size w w' := by
  obtain ⟨i0, hi, hz0, hz1, hz2⟩ := info_parts Try.info5
  have xa0 : IntKind.u64.wrap a0 = a0 := IntWalk.u64_in _ (by omega)
  have Ca0 := Lib.hid (show w.cell? ⟨p, 0, none⟩ = some (.int .u8 a0) from (cell_of_row _ _ 0 _ _ (0, 0) hp).trans rfl)
  have xa1 : IntKind.u64.wrap a1 = a1 := IntWalk.u64_in _ (by omega)
  have Ca1 := Lib.hid (show w.cell? ⟨p, 2, none⟩ = some (.int .u16 a1) from (cell_of_row _ _ 2 _ _ (0, 0) hp).trans rfl)
  have ya2 : IntKind.u32.wrap a2 = a2 := IntWalk.u32_in _ (by omega)
  have xa2 : IntKind.u64.wrap a2 = a2 := IntWalk.u64_in _ (by omega)
  have Ca2 := Lib.hid (show w.cell? ⟨p, 3, none⟩ = some (.int .i32 a2) from (cell_of_row _ _ 3 _ _ (0, 0) hp).trans rfl)
  have xa3 : IntKind.u64.wrap a3 = a3 := IntWalk.u64_in _ (by omega)
  have Ca3 := Lib.hid (show w.cell? ⟨p, 4, none⟩ = some (.int .u32 a3) from (cell_of_row _ _ 4 _ _ (0, 0) hp).trans rfl)
  have xa4 : IntKind.u64.wrap a4 = a4 := IntWalk.u64_in _ (by omega)
  have Ca4 := Lib.hid (show w.cell? ⟨p, 5, none⟩ = some (.int .u32 a4) from (cell_of_row _ _ 5 _ _ (0, 0) hp).trans rfl)
  clear hp
  go_enter Try.func123, Try.ntmps123
  go_wp2_with (at_make; go_must (refine wpList_make_full _ rfl _ _ 31 rfl w.heap.size 5 i0 (.int .u8 0) 1 Try.underlying31 hi hz0 hz1 .i64 .i64 _ _ 16 rfl rfl (by omega) (by omega) (by rw [hz2]; omega) (by unfold maxLen; omega) (Nat.le_refl _) ?_))
  intro w0 hown hgrow
  rw [toList_madeCells_one] at hown
  have B0 := Lib.hid ((Below.refl _ w).grown hgrow (Nat.le_refl _) (by intro k hk; cases hk))
  have O0 := Lib.hid hown
  clear hown hgrow
  have da0 := cells_one B0.out Ca0.out
  go_wp2_with fail
  refine (putLE_calls w.heap.size w.heap.size 16 16 0 16 16 0 1 0 1 _ a0 _ (by omega) O0.out (by decide) (by decide) (by decide) (by decide) rfl rfl).mono ?_
  rintro e w1 ⟨rfl, ho, hg⟩
  have B1 := Lib.hid (B0.out.grown hg B0.out.size (fun k hk => by injection hk with hk; omega))
  have O1 := Lib.hid ho
  clear ho hg da0
  have da1 := cells_one B1.out Ca1.out
  go_wp2_with fail
  refine (putLE_calls w.heap.size w.heap.size 16 16 0 16 16 2 2 2 2 _ a1 _ (by omega) O1.out (by decide) (by decide) (by decide) (by decide) rfl rfl).mono ?_
  rintro e w2 ⟨rfl, ho, hg⟩
  have B2 := Lib.hid (B1.out.grown hg B1.out.size (fun k hk => by injection hk with hk; omega))
  have O2 := Lib.hid ho
  clear ho hg da1
  have da2 := cells_one B2.out Ca2.out
  go_wp2_with fail
  refine (putLE_calls w.heap.size w.heap.size 16 16 0 16 16 4 4 4 4 _ a2 _ (by omega) O2.out (by decide) (by decide) (by decide) (by decide) rfl rfl).mono ?_
  rintro e w3 ⟨rfl, ho, hg⟩
  have B3 := Lib.hid (B2.out.grown hg B2.out.size (fun k hk => by injection hk with hk; omega))
  have O3 := Lib.hid ho
  clear ho hg da2
  have da3 := cells_one B3.out Ca3.out
  go_wp2_with fail
  refine (putLE_calls w.heap.size w.heap.size 16 16 0 16 16 8 4 8 4 _ a3 _ (by omega) O3.out (by decide) (by decide) (by decide) (by decide) rfl rfl).mono ?_
  rintro e w4 ⟨rfl, ho, hg⟩
  have B4 := Lib.hid (B3.out.grown hg B3.out.size (fun k hk => by injection hk with hk; omega))
  have O4 := Lib.hid ho
  clear ho hg da3
  have da4 := cells_one B4.out Ca4.out
  go_wp2_with fail
  refine (putLE_calls w.heap.size w.heap.size 16 16 0 16 16 12 4 12 4 _ a4 _ (by omega) O4.out (by decide) (by decide) (by decide) (by decide) rfl rfl).mono ?_
  rintro e w5 ⟨rfl, ho, hg⟩
  have B5 := Lib.hid (B4.out.grown hg B4.out.size (fun k hk => by injection hk with hk; omega))
  have O5 := Lib.hid ho
  clear ho hg da4
  go_wp2_with fail
  go_ret
  refine ⟨_, rfl, ?_, B5.out⟩
  have h := O5.out
  have e : putB (putB (putB (putB (putB (List.replicate 16 (Value.int .u8 0)) (0 + 0) a0 1) (0 + 2) a1 2) (0 + 4) a2 4) (0 + 8) a3 4) (0 + 12) a4 4 = bytesC (lowB a0 1 ++ [0] ++ lowB a1 2 ++ lowB a2 4 ++ lowB a3 4 ++ lowB a4 4) := by simp [putB, List.range_succ, bytesC, lowB, List.replicate]
  rw [e] at h
  exact h

set_option maxHeartbeats 1000000 in
set_option maxRecDepth 100000 in
theorem serIfInfomsg_calls (p : Nat) (a0 a1 a2 a3 a4 : Int) (w : World) (ha0 : 0 ≤ a0 ∧ a0 < 256) (ha1 : 0 ≤ a1 ∧ a1 < 65536) (ha2 : 0 ≤ a2 ∧ a2 < 2147483648) (ha3 : 0 ≤ a3 ∧ a3 < 4294967296) (ha4 : 0 ≤ a4 ∧ a4 < 4294967296) (hp : w.heap[p]? = some (.cells #[.int .u8 a0, .int .u8 0, .int .u16 a1, .int .i32 a2, .int .u32 a3, .int .u32 a4] 147 (0, 0))) :
    Calls Try.prog 98 #[.pointer (some ⟨p, 0, none⟩)] w fun e w' => ∃ v, e = .returned v ∧ w'.ownsRow w.heap.size 5 1 v 16 (bytesC (lowB a0 1 ++ [0] ++ lowB a1 2 ++ lowB a2 4 ++ lowB a3 4 ++ lowB a4 4)) ∧ Below w.heap.size w w' := by
  have HP := Lib.hid hp
  clear hp
  go_enter Try.func98, Try.ntmps98
  go_wp2_with fail
  refine (encIfInfomsg_calls p a0 a1 a2 a3 a4 w ha0 ha1 ha2 ha3 ha4 HP.out).mono ?_
  rintro e w1 ⟨v, rfl, ho, hb⟩
  have HO := Lib.hid ho
  have HB := Lib.hid hb
  clear ho hb
  go_wp2_with fail
  go_ret
  exact ⟨v, rfl, HO.out, HB.out⟩

set_option maxHeartbeats 2000000 in
set_option maxRecDepth 100000 in
theorem encIfAddrmsg_calls (p : Nat) (a0 a1 a2 a3 a4 : Int) (w : World) (ha0 : 0 ≤ a0 ∧ a0 < 256) (ha1 : 0 ≤ a1 ∧ a1 < 256) (ha2 : 0 ≤ a2 ∧ a2 < 256) (ha3 : 0 ≤ a3 ∧ a3 < 256) (ha4 : 0 ≤ a4 ∧ a4 < 4294967296) (hp : w.heap[p]? = some (.cells #[.int .u8 a0, .int .u8 a1, .int .u8 a2, .int .u8 a3, .int .u32 a4] 153 (0, 0))) :
    Calls Try.prog 124 #[.pointer (some ⟨p, 0, none⟩)] w fun e w' => ∃ v, e = .returned v ∧ w'.ownsRow w.heap.size 5 1 v 8 (bytesC (lowB a0 1 ++ lowB a1 1 ++ lowB a2 1 ++ lowB a3 1 ++ lowB a4 4)) ∧ Below w.heap.size w w' := by
  obtain ⟨i0, hi, hz0, hz1, hz2⟩ := info_parts Try.info5
  have xa0 : IntKind.u64.wrap a0 = a0 := IntWalk.u64_in _ (by omega)
  have Ca0 := Lib.hid (show w.cell? ⟨p, 0, none⟩ = some (.int .u8 a0) from (cell_of_row _ _ 0 _ _ (0, 0) hp).trans rfl)
  have xa1 : IntKind.u64.wrap a1 = a1 := IntWalk.u64_in _ (by omega)
  have Ca1 := Lib.hid (show w.cell? ⟨p, 1, none⟩ = some (.int .u8 a1) from (cell_of_row _ _ 1 _ _ (0, 0) hp).trans rfl)
  have xa2 : IntKind.u64.wrap a2 = a2 := IntWalk.u64_in _ (by omega)
  have Ca2 := Lib.hid (show w.cell? ⟨p, 2, none⟩ = some (.int .u8 a2) from (cell_of_row _ _ 2 _ _ (0, 0) hp).trans rfl)
  have xa3 : IntKind.u64.wrap a3 = a3 := IntWalk.u64_in _ (by omega)
  have Ca3 := Lib.hid (show w.cell? ⟨p, 3, none⟩ = some (.int .u8 a3) from (cell_of_row _ _ 3 _ _ (0, 0) hp).trans rfl)
  have xa4 : IntKind.u64.wrap a4 = a4 := IntWalk.u64_in _ (by omega)
  have Ca4 := Lib.hid (show w.cell? ⟨p, 4, none⟩ = some (.int .u32 a4) from (cell_of_row _ _ 4 _ _ (0, 0) hp).trans rfl)
  clear hp
  go_enter Try.func124, Try.ntmps124
  go_wp2_with (at_make; go_must (refine wpList_make_full _ rfl _ _ 31 rfl w.heap.size 5 i0 (.int .u8 0) 1 Try.underlying31 hi hz0 hz1 .i64 .i64 _ _ 8 rfl rfl (by omega) (by omega) (by rw [hz2]; omega) (by unfold maxLen; omega) (Nat.le_refl _) ?_))
  intro w0 hown hgrow
  rw [toList_madeCells_one] at hown
  have B0 := Lib.hid ((Below.refl _ w).grown hgrow (Nat.le_refl _) (by intro k hk; cases hk))
  have O0 := Lib.hid hown
  clear hown hgrow
  have da0 := cells_one B0.out Ca0.out
  go_wp2_with fail
  refine (putLE_calls w.heap.size w.heap.size 8 8 0 8 8 0 1 0 1 _ a0 _ (by omega) O0.out (by decide) (by decide) (by decide) (by decide) rfl rfl).mono ?_
  rintro e w1 ⟨rfl, ho, hg⟩
  have B1 := Lib.hid (B0.out.grown hg B0.out.size (fun k hk => by injection hk with hk; omega))
  have O1 := Lib.hid ho
  clear ho hg da0
  have da1 := cells_one B1.out Ca1.out
  go_wp2_with fail
  refine (putLE_calls w.heap.size w.heap.size 8 8 0 8 8 1 1 1 1 _ a1 _ (by omega) O1.out (by decide) (by decide) (by decide) (by decide) rfl rfl).mono ?_
  rintro e w2 ⟨rfl, ho, hg⟩
  have B2 := Lib.hid (B1.out.grown hg B1.out.size (fun k hk => by injection hk with hk; omega))
  have O2 := Lib.hid ho
  clear ho hg da1
  have da2 := cells_one B2.out Ca2.out
  go_wp2_with fail
  refine (putLE_calls w.heap.size w.heap.size 8 8 0 8 8 2 1 2 1 _ a2 _ (by omega) O2.out (by decide) (by decide) (by decide) (by decide) rfl rfl).mono ?_
  rintro e w3 ⟨rfl, ho, hg⟩
  have B3 := Lib.hid (B2.out.grown hg B2.out.size (fun k hk => by injection hk with hk; omega))
  have O3 := Lib.hid ho
  clear ho hg da2
  have da3 := cells_one B3.out Ca3.out
  go_wp2_with fail
  refine (putLE_calls w.heap.size w.heap.size 8 8 0 8 8 3 1 3 1 _ a3 _ (by omega) O3.out (by decide) (by decide) (by decide) (by decide) rfl rfl).mono ?_
  rintro e w4 ⟨rfl, ho, hg⟩
  have B4 := Lib.hid (B3.out.grown hg B3.out.size (fun k hk => by injection hk with hk; omega))
  have O4 := Lib.hid ho
  clear ho hg da3
  have da4 := cells_one B4.out Ca4.out
  go_wp2_with fail
  refine (putLE_calls w.heap.size w.heap.size 8 8 0 8 8 4 4 4 4 _ a4 _ (by omega) O4.out (by decide) (by decide) (by decide) (by decide) rfl rfl).mono ?_
  rintro e w5 ⟨rfl, ho, hg⟩
  have B5 := Lib.hid (B4.out.grown hg B4.out.size (fun k hk => by injection hk with hk; omega))
  have O5 := Lib.hid ho
  clear ho hg da4
  go_wp2_with fail
  go_ret
  refine ⟨_, rfl, ?_, B5.out⟩
  have h := O5.out
  have e : putB (putB (putB (putB (putB (List.replicate 8 (Value.int .u8 0)) (0 + 0) a0 1) (0 + 1) a1 1) (0 + 2) a2 1) (0 + 3) a3 1) (0 + 4) a4 4 = bytesC (lowB a0 1 ++ lowB a1 1 ++ lowB a2 1 ++ lowB a3 1 ++ lowB a4 4) := by simp [putB, List.range_succ, bytesC, lowB, List.replicate]
  rw [e] at h
  exact h

set_option maxHeartbeats 1000000 in
set_option maxRecDepth 100000 in
theorem serIfAddrmsg_calls (p : Nat) (a0 a1 a2 a3 a4 : Int) (w : World) (ha0 : 0 ≤ a0 ∧ a0 < 256) (ha1 : 0 ≤ a1 ∧ a1 < 256) (ha2 : 0 ≤ a2 ∧ a2 < 256) (ha3 : 0 ≤ a3 ∧ a3 < 256) (ha4 : 0 ≤ a4 ∧ a4 < 4294967296) (hp : w.heap[p]? = some (.cells #[.int .u8 a0, .int .u8 a1, .int .u8 a2, .int .u8 a3, .int .u32 a4] 153 (0, 0))) :
    Calls Try.prog 100 #[.pointer (some ⟨p, 0, none⟩)] w fun e w' => ∃ v, e = .returned v ∧ w'.ownsRow w.heap.size 5 1 v 8 (bytesC (lowB a0 1 ++ lowB a1 1 ++ lowB a2 1 ++ lowB a3 1 ++ lowB a4 4)) ∧ Below w.heap.size w w' := by
  have HP := Lib.hid hp
  clear hp
  go_enter Try.func100, Try.ntmps100
  go_wp2_with fail
  refine (encIfAddrmsg_calls p a0 a1 a2 a3 a4 w ha0 ha1 ha2 ha3 ha4 HP.out).mono ?_
  rintro e w1 ⟨v, rfl, ho, hb⟩
  have HO := Lib.hid ho
  have HB := Lib.hid hb
  clear ho hb
  go_wp2_with fail
  go_ret
  exact ⟨v, rfl, HO.out, HB.out⟩

set_option maxHeartbeats 2000000 in
set_option maxRecDepth 100000 in
theorem encIfaCacheInfo_calls (p : Nat) (a0 a1 a2 a3 : Int) (w : World) (ha0 : 0 ≤ a0 ∧ a0 < 4294967296) (ha1 : 0 ≤ a1 ∧ a1 < 4294967296) (ha2 : 0 ≤ a2 ∧ a2 < 4294967296) (ha3 : 0 ≤ a3 ∧ a3 < 4294967296) (hp : w.heap[p]? = some (.cells #[.int .u32 a0, .int .u32 a1, .int .u32 a2, .int .u32 a3] 158 (0, 0))) :
    Calls Try.prog 125 #[.pointer (some ⟨p, 0, none⟩)] w fun e w' => ∃ v, e = .returned v ∧ w'.ownsRow w.heap.size 5 1 v 16 (bytesC (lowB a0 4 ++ lowB a1 4 ++ lowB a2 4 ++ lowB a3 4)) ∧ Below w.heap.size w w' := by
  obtain ⟨i0, hi, hz0, hz1, hz2⟩ := info_parts Try.info5
  have xa0 : IntKind.u64.wrap a0 = a0 := IntWalk.u64_in _ (by omega)
  have Ca0 := Lib.hid (show w.cell? ⟨p, 0, none⟩ = some (.int .u32 a0) from (cell_of_row _ _ 0 _ _ (0, 0) hp).trans rfl)
  have xa1 : IntKind.u64.wrap a1 = a1 := IntWalk.u64_in _ (by omega)
  have Ca1 := Lib.hid (show w.cell? ⟨p, 1, none⟩ = some (.int .u32 a1) from (cell_of_row _ _ 1 _ _ (0, 0) hp).trans rfl)
  have xa2 : IntKind.u64.wrap a2 = a2 := IntWalk.u64_in _ (by omega)
  have Ca2 := Lib.hid (show w.cell? ⟨p, 2, none⟩ = some (.int .u32 a2) from (cell_of_row _ _ 2 _ _ (0, 0) hp).trans rfl)
  have xa3 : IntKind.u64.wrap a3 = a3 := IntWalk.u64_in _ (by omega)
  have Ca3 := Lib.hid (show w.cell? ⟨p, 3, none⟩ = some (.int .u32 a3) from (cell_of_row _ _ 3 _ _ (0, 0) hp).trans rfl)
  clear hp
  go_enter Try.func125, Try.ntmps125
  go_wp2_with (at_make; go_must (refine wpList_make_full _ rfl _ _ 31 rfl w.heap.size 5 i0 (.int .u8 0) 1 Try.underlying31 hi hz0 hz1 .i64 .i64 _ _ 16 rfl rfl (by omega) (by omega) (by rw [hz2]; omega) (by unfold maxLen; omega) (Nat.le_refl _) ?_))
  intro w0 hown hgrow
  rw [toList_madeCells_one] at hown
  have B0 := Lib.hid ((Below.refl _ w).grown hgrow (Nat.le_refl _) (by intro k hk; cases hk))
  have O0 := Lib.hid hown
  clear hown hgrow
  have da0 := cells_one B0.out Ca0.out
  go_wp2_with fail
  refine (putLE_calls w.heap.size w.heap.size 16 16 0 16 16 0 4 0 4 _ a0 _ (by omega) O0.out (by decide) (by decide) (by decide) (by decide) rfl rfl).mono ?_
  rintro e w1 ⟨rfl, ho, hg⟩
  have B1 := Lib.hid (B0.out.grown hg B0.out.size (fun k hk => by injection hk with hk; omega))
  have O1 := Lib.hid ho
  clear ho hg da0
  have da1 := cells_one B1.out Ca1.out
  go_wp2_with fail
  refine (putLE_calls w.heap.size w.heap.size 16 16 0 16 16 4 4 4 4 _ a1 _ (by omega) O1.out (by decide) (by decide) (by decide) (by decide) rfl rfl).mono ?_
  rintro e w2 ⟨rfl, ho, hg⟩
  have B2 := Lib.hid (B1.out.grown hg B1.out.size (fun k hk => by injection hk with hk; omega))
  have O2 := Lib.hid ho
  clear ho hg da1
  have da2 := cells_one B2.out Ca2.out
  go_wp2_with fail
  refine (putLE_calls w.heap.size w.heap.size 16 16 0 16 16 8 4 8 4 _ a2 _ (by omega) O2.out (by decide) (by decide) (by decide) (by decide) rfl rfl).mono ?_
  rintro e w3 ⟨rfl, ho, hg⟩
  have B3 := Lib.hid (B2.out.grown hg B2.out.size (fun k hk => by injection hk with hk; omega))
  have O3 := Lib.hid ho
  clear ho hg da2
  have da3 := cells_one B3.out Ca3.out
  go_wp2_with fail
  refine (putLE_calls w.heap.size w.heap.size 16 16 0 16 16 12 4 12 4 _ a3 _ (by omega) O3.out (by decide) (by decide) (by decide) (by decide) rfl rfl).mono ?_
  rintro e w4 ⟨rfl, ho, hg⟩
  have B4 := Lib.hid (B3.out.grown hg B3.out.size (fun k hk => by injection hk with hk; omega))
  have O4 := Lib.hid ho
  clear ho hg da3
  go_wp2_with fail
  go_ret
  refine ⟨_, rfl, ?_, B4.out⟩
  have h := O4.out
  have e : putB (putB (putB (putB (List.replicate 16 (Value.int .u8 0)) (0 + 0) a0 4) (0 + 4) a1 4) (0 + 8) a2 4) (0 + 12) a3 4 = bytesC (lowB a0 4 ++ lowB a1 4 ++ lowB a2 4 ++ lowB a3 4) := by simp [putB, List.range_succ, bytesC, lowB, List.replicate]
  rw [e] at h
  exact h

set_option maxHeartbeats 1000000 in
set_option maxRecDepth 100000 in
theorem serIfaCacheInfo_calls (p : Nat) (a0 a1 a2 a3 : Int) (w : World) (ha0 : 0 ≤ a0 ∧ a0 < 4294967296) (ha1 : 0 ≤ a1 ∧ a1 < 4294967296) (ha2 : 0 ≤ a2 ∧ a2 < 4294967296) (ha3 : 0 ≤ a3 ∧ a3 < 4294967296) (hp : w.heap[p]? = some (.cells #[.int .u32 a0, .int .u32 a1, .int .u32 a2, .int .u32 a3] 158 (0, 0))) :
    Calls Try.prog 101 #[.pointer (some ⟨p, 0, none⟩)] w fun e w' => ∃ v, e = .returned v ∧ w'.ownsRow w.heap.size 5 1 v 16 (bytesC (lowB a0 4 ++ lowB a1 4 ++ lowB a2 4 ++ lowB a3 4)) ∧ Below w.heap.size w w' := by
  have HP := Lib.hid hp
  clear hp
  go_enter Try.func101, Try.ntmps101
  go_wp2_with fail
  refine (encIfaCacheInfo_calls p a0 a1 a2 a3 w ha0 ha1 ha2 ha3 HP.out).mono ?_
  rintro e w1 ⟨v, rfl, ho, hb⟩
  have HO := Lib.hid ho
  have HB := Lib.hid hb
  clear ho hb
  go_wp2_with fail
  go_ret
  exact ⟨v, rfl, HO.out, HB.out⟩

set_option maxHeartbeats 2000000 in
set_option maxRecDepth 100000 in
theorem encRtMsg_calls (p : Nat) (a0 a1 a2 a3 a4 a5 a6 a7 a8 : Int) (w : World) (ha0 : 0 ≤ a0 ∧ a0 < 256) (ha1 : 0 ≤ a1 ∧ a1 < 256) (ha2 : 0 ≤ a2 ∧ a2 < 256) (ha3 : 0 ≤ a3 ∧ a3 < 256) (ha4 : 0 ≤ a4 ∧ a4 < 256) (ha5 : 0 ≤ a5 ∧ a5 < 256) (ha6 : 0 ≤ a6 ∧ a6 < 256) (ha7 : 0 ≤ a7 ∧ a7 < 256) (ha8 : 0 ≤ a8 ∧ a8 < 4294967296) (hp : w.heap[p]? = some (.cells #[.int .u8 a0, .int .u8 a1, .int .u8 a2, .int .u8 a3, .int .u8 a4, .int .u8 a5, .int .u8 a6, .int .u8 a7, .int .u32 a8] 163 (0, 0))) :
    Calls Try.prog 126 #[.pointer (some ⟨p, 0, none⟩)] w fun e w' => ∃ v, e = .returned v ∧ w'.ownsRow w.heap.size 5 1 v 12 (bytesC (lowB a0 1 ++ lowB a1 1 ++ lowB a2 1 ++ lowB a3 1 ++ lowB a4 1 ++ lowB a5 1 ++ lowB a6 1 ++ lowB a7 1 ++ lowB a8 4)) ∧ Below w.heap.size w w' := by
  obtain ⟨i0, hi, hz0, hz1, hz2⟩ := info_parts Try.info5
  have xa0 : IntKind.u64.wrap a0 = a0 := IntWalk.u64_in _ (by omega)
  have Ca0 := Lib.hid (show w.cell? ⟨p, 0, none⟩ = some (.int .u8 a0) from (cell_of_row _ _ 0 _ _ (0, 0) hp).trans rfl)
  have xa1 : IntKind.u64.wrap a1 = a1 := IntWalk.u64_in _ (by omega)
  have Ca1 := Lib.hid (show w.cell? ⟨p, 1, none⟩ = some (.int .u8 a1) from (cell_of_row _ _ 1 _ _ (0, 0) hp).trans rfl)
  have xa2 : IntKind.u64.wrap a2 = a2 := IntWalk.u64_in _ (by omega)
  have Ca2 := Lib.hid (show w.cell? ⟨p, 2, none⟩ = some (.int .u8 a2) from (cell_of_row _ _ 2 _ _ (0, 0) hp).trans rfl)
  have xa3 : IntKind.u64.wrap a3 = a3 := IntWalk.u64_in _ (by omega)
  have Ca3 := Lib.hid (show w.cell? ⟨p, 3, none⟩ = some (.int .u8 a3) from (cell_of_row _ _ 3 _ _ (0, 0) hp).trans rfl)
  have xa4 : IntKind.u64.wrap a4 = a4 := IntWalk.u64_in _ (by omega)
  have Ca4 := Lib.hid (show w.cell? ⟨p, 4, none⟩ = some (.int .u8 a4) from (cell_of_row _ _ 4 _ _ (0, 0) hp).trans rfl)
  have xa5 : IntKind.u64.wrap a5 = a5 := IntWalk.u64_in _ (by omega)
  have Ca5 := Lib.hid (show w.cell? ⟨p, 5, none⟩ = some (.int .u8 a5) from (cell_of_row _ _ 5 _ _ (0, 0) hp).trans rfl)
  have xa6 : IntKind.u64.wrap a6 = a6 := IntWalk.u64_in _ (by omega)
  have Ca6 := Lib.hid (show w.cell? ⟨p, 6, none⟩ = some (.int .u8 a6) from (cell_of_row _ _ 6 _ _ (0, 0) hp).trans rfl)
  have xa7 : IntKind.u64.wrap a7 = a7 := IntWalk.u64_in _ (by omega)
  have Ca7 := Lib.hid (show w.cell? ⟨p, 7, none⟩ = some (.int .u8 a7) from (cell_of_row _ _ 7 _ _ (0, 0) hp).trans rfl)
  have xa8 : IntKind.u64.wrap a8 = a8 := IntWalk.u64_in _ (by omega)
  have Ca8 := Lib.hid (show w.cell? ⟨p, 8, none⟩ = some (.int .u32 a8) from (cell_of_row _ _ 8 _ _ (0, 0) hp).trans rfl)
  clear hp
  go_enter Try.func126, Try.ntmps126
  go_wp2_with (at_make; go_must (refine wpList_make_full _ rfl _ _ 31 rfl w.heap.size 5 i0 (.int .u8 0) 1 Try.underlying31 hi hz0 hz1 .i64 .i64 _ _ 12 rfl rfl (by omega) (by omega) (by rw [hz2]; omega) (by unfold maxLen; omega) (Nat.le_refl _) ?_))
  intro w0 hown hgrow
  rw [toList_madeCells_one] at hown
  have B0 := Lib.hid ((Below.refl _ w).grown hgrow (Nat.le_refl _) (by intro k hk; cases hk))
  have O0 := Lib.hid hown
  clear hown hgrow
  have da0 := cells_one B0.out Ca0.out
  go_wp2_with fail
  refine (putLE_calls w.heap.size w.heap.size 12 12 0 12 12 0 1 0 1 _ a0 _ (by omega) O0.out (by decide) (by decide) (by decide) (by decide) rfl rfl).mono ?_
  rintro e w1 ⟨rfl, ho, hg⟩
  have B1 := Lib.hid (B0.out.grown hg B0.out.size (fun k hk => by injection hk with hk; omega))
  have O1 := Lib.hid ho
  clear ho hg da0
  have da1 := cells_one B1.out Ca1.out
  go_wp2_with fail
  refine (putLE_calls w.heap.size w.heap.size 12 12 0 12 12 1 1 1 1 _ a1 _ (by omega) O1.out (by decide) (by decide) (by decide) (by decide) rfl rfl).mono ?_
  rintro e w2 ⟨rfl, ho, hg⟩
  have B2 := Lib.hid (B1.out.grown hg B1.out.size (fun k hk => by injection hk with hk; omega))
  have O2 := Lib.hid ho
  clear ho hg da1
  have da2 := cells_one B2.out Ca2.out
  go_wp2_with fail
  refine (putLE_calls w.heap.size w.heap.size 12 12 0 12 12 2 1 2 1 _ a2 _ (by omega) O2.out (by decide) (by decide) (by decide) (by decide) rfl rfl).mono ?_
  rintro e w3 ⟨rfl, ho, hg⟩
  have B3 := Lib.hid (B2.out.grown hg B2.out.size (fun k hk => by injection hk with hk; omega))
  have O3 := Lib.hid ho
  clear ho hg da2
  have da3 := cells_one B3.out Ca3.out
  go_wp2_with fail
  refine (putLE_calls w.heap.size w.heap.size 12 12 0 12 12 3 1 3 1 _ a3 _ (by omega) O3.out (by decide) (by decide) (by decide) (by decide) rfl rfl).mono ?_
  rintro e w4 ⟨rfl, ho, hg⟩
  have B4 := Lib.hid (B3.out.grown hg B3.out.size (fun k hk => by injection hk with hk; omega))
  have O4 := Lib.hid ho
  clear ho hg da3
  have da4 := cells_one B4.out Ca4.out
  go_wp2_with fail
  refine (putLE_calls w.heap.size w.heap.size 12 12 0 12 12 4 1 4 1 _ a4 _ (by omega) O4.out (by decide) (by decide) (by decide) (by decide) rfl rfl).mono ?_
  rintro e w5 ⟨rfl, ho, hg⟩
  have B5 := Lib.hid (B4.out.grown hg B4.out.size (fun k hk => by injection hk with hk; omega))
  have O5 := Lib.hid ho
  clear ho hg da4
  have da5 := cells_one B5.out Ca5.out
  go_wp2_with fail
  refine (putLE_calls w.heap.size w.heap.size 12 12 0 12 12 5 1 5 1 _ a5 _ (by omega) O5.out (by decide) (by decide) (by decide) (by decide) rfl rfl).mono ?_
  rintro e w6 ⟨rfl, ho, hg⟩
  have B6 := Lib.hid (B5.out.grown hg B5.out.size (fun k hk => by injection hk with hk; omega))
  have O6 := Lib.hid ho
  clear ho hg da5
  have da6 := cells_one B6.out Ca6.out
  go_wp2_with fail
  refine (putLE_calls w.heap.size w.heap.size 12 12 0 12 12 6 1 6 1 _ a6 _ (by omega) O6.out (by decide) (by decide) (by decide) (by decide) rfl rfl).mono ?_
  rintro e w7 ⟨rfl, ho, hg⟩
  have B7 := Lib.hid (B6.out.grown hg B6.out.size (fun k hk => by injection hk with hk; omega))
  have O7 := Lib.hid ho
  clear ho hg da6
  have da7 := cells_one B7.out Ca7.out
  go_wp2_with fail
  refine (putLE_calls w.heap.size w.heap.size 12 12 0 12 12 7 1 7 1 _ a7 _ (by omega) O7.out (by decide) (by decide) (by decide) (by decide) rfl rfl).mono ?_
  rintro e w8 ⟨rfl, ho, hg⟩
  have B8 := Lib.hid (B7.out.grown hg B7.out.size (fun k hk => by injection hk with hk; omega))
  have O8 := Lib.hid ho
  clear ho hg da7
  have da8 := cells_one B8.out Ca8.out
  go_wp2_with fail
  refine (putLE_calls w.heap.size w.heap.size 12 12 0 12 12 8 4 8 4 _ a8 _ (by omega) O8.out (by decide) (by decide) (by decide) (by decide) rfl rfl).mono ?_
  rintro e w9 ⟨rfl, ho, hg⟩
  have B9 := Lib.hid (B8.out.grown hg B8.out.size (fun k hk => by injection hk with hk; omega))
  have O9 := Lib.hid ho
  clear ho hg da8
  go_wp2_with fail
  go_ret
  refine ⟨_, rfl, ?_, B9.out⟩
  have h := O9.out
  have e : putB (putB (putB (putB (putB (putB (putB (putB (putB (List.replicate 12 (Value.int .u8 0)) (0 + 0) a0 1) (0 + 1) a1 1) (0 + 2) a2 1) (0 + 3) a3 1) (0 + 4) a4 1) (0 + 5) a5 1) (0 + 6) a6 1) (0 + 7) a7 1) (0 + 8) a8 4 = bytesC (lowB a0 1 ++ lowB a1 1 ++ lowB a2 1 ++ lowB a3 1 ++ lowB a4 1 ++ lowB a5 1 ++ lowB a6 1 ++ lowB a7 1 ++ lowB a8 4) := by simp [putB, List.range_succ, bytesC, lowB, List.replicate]
  rw [e] at h
  exact h

set_option maxHeartbeats 1000000 in
set_option maxRecDepth 100000 in
theorem serRtMsg_calls (p : Nat) (a0 a1 a2 a3 a4 a5 a6 a7 a8 : Int) (w : World) (ha0 : 0 ≤ a0 ∧ a0 < 256) (ha1 : 0 ≤ a1 ∧ a1 < 256) (ha2 : 0 ≤ a2 ∧ a2 < 256) (ha3 : 0 ≤ a3 ∧ a3 < 256) (ha4 : 0 ≤ a4 ∧ a4 < 256) (ha5 : 0 ≤ a5 ∧ a5 < 256) (ha6 : 0 ≤ a6 ∧ a6 < 256) (ha7 : 0 ≤ a7 ∧ a7 < 256) (ha8 : 0 ≤ a8 ∧ a8 < 4294967296) (hp : w.heap[p]? = some (.cells #[.int .u8 a0, .int .u8 a1, .int .u8 a2, .int .u8 a3, .int .u8 a4, .int .u8 a5, .int .u8 a6, .int .u8 a7, .int .u32 a8] 163 (0, 0))) :
    Calls Try.prog 102 #[.pointer (some ⟨p, 0, none⟩)] w fun e w' => ∃ v, e = .returned v ∧ w'.ownsRow w.heap.size 5 1 v 12 (bytesC (lowB a0 1 ++ lowB a1 1 ++ lowB a2 1 ++ lowB a3 1 ++ lowB a4 1 ++ lowB a5 1 ++ lowB a6 1 ++ lowB a7 1 ++ lowB a8 4)) ∧ Below w.heap.size w w' := by
  have HP := Lib.hid hp
  clear hp
  go_enter Try.func102, Try.ntmps102
  go_wp2_with fail
  refine (encRtMsg_calls p a0 a1 a2 a3 a4 a5 a6 a7 a8 w ha0 ha1 ha2 ha3 ha4 ha5 ha6 ha7 ha8 HP.out).mono ?_
  rintro e w1 ⟨v, rfl, ho, hb⟩
  have HO := Lib.hid ho
  have HB := Lib.hid hb
  clear ho hb
  go_wp2_with fail
  go_ret
  exact ⟨v, rfl, HO.out, HB.out⟩

set_option maxHeartbeats 2000000 in
set_option maxRecDepth 100000 in
theorem encGenlmsg_calls (p : Nat) (a0 a1 : Int) (w : World) (ha0 : 0 ≤ a0 ∧ a0 < 256) (ha1 : 0 ≤ a1 ∧ a1 < 256) (hp : w.heap[p]? = some (.cells #[.int .u8 a0, .int .u8 a1] 172 (0, 0))) :
    Calls Try.prog 128 #[.pointer (some ⟨p, 0, none⟩)] w fun e w' => ∃ v, e = .returned v ∧ w'.ownsRow w.heap.size 5 1 v 4 (bytesC (lowB a0 1 ++ lowB a1 1 ++ [0, 0])) ∧ Below w.heap.size w w' := by
  obtain ⟨i0, hi, hz0, hz1, hz2⟩ := info_parts Try.info5
  have xa0 : IntKind.u64.wrap a0 = a0 := IntWalk.u64_in _ (by omega)
  have Ca0 := Lib.hid (show w.cell? ⟨p, 0, none⟩ = some (.int .u8 a0) from (cell_of_row _ _ 0 _ _ (0, 0) hp).trans rfl)
  have xa1 : IntKind.u64.wrap a1 = a1 := IntWalk.u64_in _ (by omega)
  have Ca1 := Lib.hid (show w.cell? ⟨p, 1, none⟩ = some (.int .u8 a1) from (cell_of_row _ _ 1 _ _ (0, 0) hp).trans rfl)
  clear hp
  go_enter Try.func128, Try.ntmps128
  go_wp2_with (at_make; go_must (refine wpList_make_full _ rfl _ _ 31 rfl w.heap.size 5 i0 (.int .u8 0) 1 Try.underlying31 hi hz0 hz1 .i64 .i64 _ _ 4 rfl rfl (by omega) (by omega) (by rw [hz2]; omega) (by unfold maxLen; omega) (Nat.le_refl _) ?_))
  intro w0 hown hgrow
  rw [toList_madeCells_one] at hown
  have B0 := Lib.hid ((Below.refl _ w).grown hgrow (Nat.le_refl _) (by intro k hk; cases hk))
  have O0 := Lib.hid hown
  clear hown hgrow
  have da0 := cells_one B0.out Ca0.out
  go_wp2_with fail
  refine (putLE_calls w.heap.size w.heap.size 4 4 0 4 4 0 1 0 1 _ a0 _ (by omega) O0.out (by decide) (by decide) (by decide) (by decide) rfl rfl).mono ?_
  rintro e w1 ⟨rfl, ho, hg⟩
  have B1 := Lib.hid (B0.out.grown hg B0.out.size (fun k hk => by injection hk with hk; omega))
  have O1 := Lib.hid ho
  clear ho hg da0
  have da1 := cells_one B1.out Ca1.out
  go_wp2_with fail
  refine (putLE_calls w.heap.size w.heap.size 4 4 0 4 4 1 1 1 1 _ a1 _ (by omega) O1.out (by decide) (by decide) (by decide) (by decide) rfl rfl).mono ?_
  rintro e w2 ⟨rfl, ho, hg⟩
  have B2 := Lib.hid (B1.out.grown hg B1.out.size (fun k hk => by injection hk with hk; omega))
  have O2 := Lib.hid ho
  clear ho hg da1
  go_wp2_with fail
  go_ret
  refine ⟨_, rfl, ?_, B2.out⟩
  have h := O2.out
  have e : putB (putB (List.replicate 4 (Value.int .u8 0)) (0 + 0) a0 1) (0 + 1) a1 1 = bytesC (lowB a0 1 ++ lowB a1 1 ++ [0, 0]) := by simp [putB, List.range_succ, bytesC, lowB, List.replicate]
  rw [e] at h
  exact h

set_option maxHeartbeats 1000000 in
set_option maxRecDepth 100000 in
theorem serGenlmsg_calls (p : Nat) (a0 a1 : Int) (w : World) (ha0 : 0 ≤ a0 ∧ a0 < 256) (ha1 : 0 ≤ a1 ∧ a1 < 256) (hp : w.heap[p]? = some (.cells #[.int .u8 a0, .int .u8 a1] 172 (0, 0))) :
    Calls Try.prog 105 #[.pointer (some ⟨p, 0, none⟩)] w fun e w' => ∃ v, e = .returned v ∧ w'.ownsRow w.heap.size 5 1 v 4 (bytesC (lowB a0 1 ++ lowB a1 1 ++ [0, 0])) ∧ Below w.heap.size w w' := by
  have HP := Lib.hid hp
  clear hp
  go_enter Try.func105, Try.ntmps105
  go_wp2_with fail
  refine (encGenlmsg_calls p a0 a1 w ha0 ha1 HP.out).mono ?_
  rintro e w1 ⟨v, rfl, ho, hb⟩
  have HO := Lib.hid ho
  have HB := Lib.hid hb
  clear ho hb
  go_wp2_with fail
  go_ret
  exact ⟨v, rfl, HO.out, HB.out⟩

set_option maxHeartbeats 2000000 in
set_option maxRecDepth 100000 in
theorem encCnMsgOp_calls (p : Nat) (a0 a1 a2 a3 a4 a5 a6 : Int) (w : World) (ha0 : 0 ≤ a0 ∧ a0 < 4294967296) (ha1 : 0 ≤ a1 ∧ a1 < 4294967296) (ha2 : 0 ≤ a2 ∧ a2 < 4294967296) (ha3 : 0 ≤ a3 ∧ a3 < 4294967296) (ha4 : 0 ≤ a4 ∧ a4 < 65536) (ha5 : 0 ≤ a5 ∧ a5 < 65536) (ha6 : 0 ≤ a6 ∧ a6 < 4294967296) (hp : w.heap[p]? = some (.cells #[.int .u32 a0, .int .u32 a1, .int .u32 a2, .int .u32 a3, .int .u16 a4, .int .u16 a5, .int .u32 a6] 180 (0, 0))) :
    Calls Try.prog 129 #[.pointer (some ⟨p, 0, none⟩)] w fun e w' => ∃ v, e = .returned v ∧ w'.ownsRow w.heap.size 5 1 v 24 (bytesC (lowB a0 4 ++ lowB a1 4 ++ lowB a2 4 ++ lowB a3 4 ++ lowB a4 2 ++ lowB a5 2 ++ lowB a6 4)) ∧ Below w.heap.size w w' := by
  obtain ⟨i0, hi, hz0, hz1, hz2⟩ := info_parts Try.info5
  have xa0 : IntKind.u64.wrap a0 = a0 := IntWalk.u64_in _ (by omega)
  have Ca0 := Lib.hid (show w.cell? ⟨p, 0, none⟩ = some (.int .u32 a0) from (cell_of_row _ _ 0 _ _ (0, 0) hp).trans rfl)
  have xa1 : IntKind.u64.wrap a1 = a1 := IntWalk.u64_in _ (by omega)
  have Ca1 := Lib.hid (show w.cell? ⟨p, 1, none⟩ = some (.int .u32 a1) from (cell_of_row _ _ 1 _ _ (0, 0) hp).trans rfl)
  have xa2 : IntKind.u64.wrap a2 = a2 := IntWalk.u64_in _ (by omega)
  have Ca2 := Lib.hid (show w.cell? ⟨p, 2, none⟩ = some (.int .u32 a2) from (cell_of_row _ _ 2 _ _ (0, 0) hp).trans rfl)
  have xa3 : IntKind.u64.wrap a3 = a3 := IntWalk.u64_in _ (by omega)
  have Ca3 := Lib.hid (show w.cell? ⟨p, 3, none⟩ = some (.int .u32 a3) from (cell_of_row _ _ 3 _ _ (0, 0) hp).trans rfl)
  have xa4 : IntKind.u64.wrap a4 = a4 := IntWalk.u64_in _ (by omega)
  have Ca4 := Lib.hid (show w.cell? ⟨p, 4, none⟩ = some (.int .u16 a4) from (cell_of_row _ _ 4 _ _ (0, 0) hp).trans rfl)
  have xa5 : IntKind.u64.wrap a5 = a5 := IntWalk.u64_in _ (by omega)
  have Ca5 := Lib.hid (show w.cell? ⟨p, 5, none⟩ = some (.int .u16 a5) from (cell_of_row _ _ 5 _ _ (0, 0) hp).trans rfl)
  have xa6 : IntKind.u64.wrap a6 = a6 := IntWalk.u64_in _ (by omega)
  have Ca6 := Lib.hid (show w.cell? ⟨p, 6, none⟩ = some (.int .u32 a6) from (cell_of_row _ _ 6 _ _ (0, 0) hp).trans rfl)
  clear hp
  go_enter Try.func129, Try.ntmps129
  go_wp2_with (at_make; go_must (refine wpList_make_full _ rfl _ _ 31 rfl w.heap.size 5 i0 (.int .u8 0) 1 Try.underlying31 hi hz0 hz1 .i64 .i64 _ _ 24 rfl rfl (by omega) (by omega) (by rw [hz2]; omega) (by unfold maxLen; omega) (Nat.le_refl _) ?_))
  intro w0 hown hgrow
  rw [toList_madeCells_one] at hown
  have B0 := Lib.hid ((Below.refl _ w).grown hgrow (Nat.le_refl _) (by intro k hk; cases hk))
  have O0 := Lib.hid hown
  clear hown hgrow
  have da0 := cells_one B0.out Ca0.out
  go_wp2_with fail
  refine (putLE_calls w.heap.size w.heap.size 24 24 0 24 24 0 4 0 4 _ a0 _ (by omega) O0.out (by decide) (by decide) (by decide) (by decide) rfl rfl).mono ?_
  rintro e w1 ⟨rfl, ho, hg⟩
  have B1 := Lib.hid (B0.out.grown hg B0.out.size (fun k hk => by injection hk with hk; omega))
  have O1 := Lib.hid ho
  clear ho hg da0
  have da1 := cells_one B1.out Ca1.out
  go_wp2_with fail
  refine (putLE_calls w.heap.size w.heap.size 24 24 0 24 24 4 4 4 4 _ a1 _ (by omega) O1.out (by decide) (by decide) (by decide) (by decide) rfl rfl).mono ?_
  rintro e w2 ⟨rfl, ho, hg⟩
  have B2 := Lib.hid (B1.out.grown hg B1.out.size (fun k hk => by injection hk with hk; omega))
  have O2 := Lib.hid ho
  clear ho hg da1
  have da2 := cells_one B2.out Ca2.out
  go_wp2_with fail
  refine (putLE_calls w.heap.size w.heap.size 24 24 0 24 24 8 4 8 4 _ a2 _ (by omega) O2.out (by decide) (by decide) (by decide) (by decide) rfl rfl).mono ?_
  rintro e w3 ⟨rfl, ho, hg⟩
  have B3 := Lib.hid (B2.out.grown hg B2.out.size (fun k hk => by injection hk with hk; omega))
  have O3 := Lib.hid ho
  clear ho hg da2
  have da3 := cells_one B3.out Ca3.out
  go_wp2_with fail
  refine (putLE_calls w.heap.size w.heap.size 24 24 0 24 24 12 4 12 4 _ a3 _ (by omega) O3.out (by decide) (by decide) (by decide) (by decide) rfl rfl).mono ?_
  rintro e w4 ⟨rfl, ho, hg⟩
  have B4 := Lib.hid (B3.out.grown hg B3.out.size (fun k hk => by injection hk with hk; omega))
  have O4 := Lib.hid ho
  clear ho hg da3
  have da4 := cells_one B4.out Ca4.out
  go_wp2_with fail
  refine (putLE_calls w.heap.size w.heap.size 24 24 0 24 24 16 2 16 2 _ a4 _ (by omega) O4.out (by decide) (by decide) (by decide) (by decide) rfl rfl).mono ?_
  rintro e w5 ⟨rfl, ho, hg⟩
  have B5 := Lib.hid (B4.out.grown hg B4.out.size (fun k hk => by injection hk with hk; omega))
  have O5 := Lib.hid ho
  clear ho hg da4
  have da5 := cells_one B5.out Ca5.out
  go_wp2_with fail
  refine (putLE_calls w.heap.size w.heap.size 24 24 0 24 24 18 2 18 2 _ a5 _ (by omega) O5.out (by decide) (by decide) (by decide) (by decide) rfl rfl).mono ?_
  rintro e w6 ⟨rfl, ho, hg⟩
  have B6 := Lib.hid (B5.out.grown hg B5.out.size (fun k hk => by injection hk with hk; omega))
  have O6 := Lib.hid ho
  clear ho hg da5
  have da6 := cells_one B6.out Ca6.out
  go_wp2_with fail
  refine (putLE_calls w.heap.size w.heap.size 24 24 0 24 24 20 4 20 4 _ a6 _ (by omega) O6.out (by decide) (by decide) (by decide) (by decide) rfl rfl).mono ?_
  rintro e w7 ⟨rfl, ho, hg⟩
  have B7 := Lib.hid (B6.out.grown hg B6.out.size (fun k hk => by injection hk with hk; omega))
  have O7 := Lib.hid ho
  clear ho hg da6
  go_wp2_with fail
  go_ret
  refine ⟨_, rfl, ?_, B7.out⟩
  have h := O7.out
  have e : putB (putB (putB (putB (putB (putB (putB (List.replicate 24 (Value.int .u8 0)) (0 + 0) a0 4) (0 + 4) a1 4) (0 + 8) a2 4) (0 + 12) a3 4) (0 + 16) a4 2) (0 + 18) a5 2) (0 + 20) a6 4 = bytesC (lowB a0 4 ++ lowB a1 4 ++ lowB a2 4 ++ lowB a3 4 ++ lowB a4 2 ++ lowB a5 2 ++ lowB a6 4) := by simp [putB, List.range_succ, bytesC, lowB, List.replicate]
  rw [e] at h
  exact h

set_option maxHeartbeats 1000000 in
set_option maxRecDepth 100000 in
theorem serCnMsgOp_calls (p : Nat) (a0 a1 a2 a3 a4 a5 a6 : Int) (w : World) (ha0 : 0 ≤ a0 ∧ a0 < 4294967296) (ha1 : 0 ≤ a1 ∧ a1 < 4294967296) (ha2 : 0 ≤ a2 ∧ a2 < 4294967296) (ha3 : 0 ≤ a3 ∧ a3 < 4294967296) (ha4 : 0 ≤ a4 ∧ a4 < 65536) (ha5 : 0 ≤ a5 ∧ a5 < 65536) (ha6 : 0 ≤ a6 ∧ a6 < 4294967296) (hp : w.heap[p]? = some (.cells #[.int .u32 a0, .int .u32 a1, .int .u32 a2, .int .u32 a3, .int .u16 a4, .int .u16 a5, .int .u32 a6] 180 (0, 0))) :
    Calls Try.prog 107 #[.pointer (some ⟨p, 0, none⟩)] w fun e w' => ∃ v, e = .returned v ∧ w'.ownsRow w.heap.size 5 1 v 24 (bytesC (lowB a0 4 ++ lowB a1 4 ++ lowB a2 4 ++ lowB a3 4 ++ lowB a4 2 ++ lowB a5 2 ++ lowB a6 4)) ∧ Below w.heap.size w w' := by
  have HP := Lib.hid hp
  clear hp
  go_enter Try.func107, Try.ntmps107
  go_wp2_with fail
  refine (encCnMsgOp_calls p a0 a1 a2 a3 a4 a5 a6 w ha0 ha1 ha2 ha3 ha4 ha5 ha6 HP.out).mono ?_
  rintro e w1 ⟨v, rfl, ho, hb⟩
  have HO := Lib.hid ho
  have HB := Lib.hid hb
  clear ho hb
  go_wp2_with fail
  go_ret
  exact ⟨v, rfl, HO.out, HB.out⟩

set_option maxHeartbeats 2000000 in
set_option maxRecDepth 100000 in
theorem encBridgeVlanInfo_calls (p : Nat) (a0 a1 : Int) (w : World) (ha0 : 0 ≤ a0 ∧ a0 < 65536) (ha1 : 0 ≤ a1 ∧ a1 < 65536) (hp : w.heap[p]? = some (.cells #[.int .u16 a0, .int .u16 a1] 183 (0, 0))) :
    Calls Try.prog 130 #[.pointer (some ⟨p, 0, none⟩)] w fun e w' => ∃ v, e = .returned v ∧ w'.ownsRow w.heap.size 5 1 v 4 (bytesC (lowB a0 2 ++ lowB a1 2)) ∧ Below w.heap.size w w' := by
  obtain ⟨i0, hi, hz0, hz1, hz2⟩ := info_parts Try.info5
  have xa0 : IntKind.u64.wrap a0 = a0 := IntWalk.u64_in _ (by omega)
  have Ca0 := Lib.hid (show w.cell? ⟨p, 0, none⟩ = some (.int .u16 a0) from (cell_of_row _ _ 0 _ _ (0, 0) hp).trans rfl)
  have xa1 : IntKind.u64.wrap a1 = a1 := IntWalk.u64_in _ (by omega)
  have Ca1 := Lib.hid (show w.cell? ⟨p, 1, none⟩ = some (.int .u16 a1) from (cell_of_row _ _ 1 _ _ (0, 0) hp).trans rfl)
  clear hp
  go_enter Try.func130, Try.ntmps130
  go_wp2_with (at_make; go_must (refine wpList_make_full _ rfl _ _ 31 rfl w.heap.size 5 i0 (.int .u8 0) 1 Try.underlying31 hi hz0 hz1 .i64 .i64 _ _ 4 rfl rfl (by omega) (by omega) (by rw [hz2]; omega) (by unfold maxLen; omega) (Nat.le_refl _) ?_))
  intro w0 hown hgrow
  rw [toList_madeCells_one] at hown
  have B0 := Lib.hid ((Below.refl _ w).grown hgrow (Nat.le_refl _) (by intro k hk; cases hk))
  have O0 := Lib.hid hown
  clear hown hgrow
  have da0 := cells_one B0.out Ca0.out
  go_wp2_with fail
  refine (putLE_calls w.heap.size w.heap.size 4 4 0 4 4 0 2 0 2 _ a0 _ (by omega) O0.out (by decide) (by decide) (by decide) (by decide) rfl rfl).mono ?_
  rintro e w1 ⟨rfl, ho, hg⟩
  have B1 := Lib.hid (B0.out.grown hg B0.out.size (fun k hk => by injection hk with hk; omega))
  have O1 := Lib.hid ho
  clear ho hg da0
  have da1 := cells_one B1.out Ca1.out
  go_wp2_with fail
  refine (putLE_calls w.heap.size w.heap.size 4 4 0 4 4 2 2 2 2 _ a1 _ (by omega) O1.out (by decide) (by decide) (by decide) (by decide) rfl rfl).mono ?_
  rintro e w2 ⟨rfl, ho, hg⟩
  have B2 := Lib.hid (B1.out.grown hg B1.out.size (fun k hk => by injection hk with hk; omega))
  have O2 := Lib.hid ho
  clear ho hg da1
  go_wp2_with fail
  go_ret
  refine ⟨_, rfl, ?_, B2.out⟩
  have h := O2.out
  have e : putB (putB (List.replicate 4 (Value.int .u8 0)) (0 + 0) a0 2) (0 + 2) a1 2 = bytesC (lowB a0 2 ++ lowB a1 2) := by simp [putB, List.range_succ, bytesC, lowB, List.replicate]
  rw [e] at h
  exact h

set_option maxHeartbeats 1000000 in
set_option maxRecDepth 100000 in
theorem serBridgeVlanInfo_calls (p : Nat) (a0 a1 : Int) (w : World) (ha0 : 0 ≤ a0 ∧ a0 < 65536) (ha1 : 0 ≤ a1 ∧ a1 < 65536) (hp : w.heap[p]? = some (.cells #[.int .u16 a0, .int .u16 a1] 183 (0, 0))) :
    Calls Try.prog 108 #[.pointer (some ⟨p, 0, none⟩)] w fun e w' => ∃ v, e = .returned v ∧ w'.ownsRow w.heap.size 5 1 v 4 (bytesC (lowB a0 2 ++ lowB a1 2)) ∧ Below w.heap.size w w' := by
  have HP := Lib.hid hp
  clear hp
  go_enter Try.func108, Try.ntmps108
  go_wp2_with fail
  refine (encBridgeVlanInfo_calls p a0 a1 w ha0 ha1 HP.out).mono ?_
  rintro e w1 ⟨v, rfl, ho, hb⟩
  have HO := Lib.hid ho
  have HB := Lib.hid hb
  clear ho hb
  go_wp2_with fail
  go_ret
  exact ⟨v, rfl, HO.out, HB.out⟩

set_option maxHeartbeats 2000000 in
set_option maxRecDepth 100000 in
theorem encUint32Bitfield_calls (p : Nat) (a0 a1 : Int) (w : World) (ha0 : 0 ≤ a0 ∧ a0 < 4294967296) (ha1 : 0 ≤ a1 ∧ a1 < 4294967296) (hp : w.heap[p]? = some (.cells #[.int .u32 a0, .int .u32 a1] 186 (0, 0))) :
    Calls Try.prog 131 #[.pointer (some ⟨p, 0, none⟩)] w fun e w' => ∃ v, e = .returned v ∧ w'.ownsRow w.heap.size 5 1 v 8 (bytesC (lowB a0 4 ++ lowB a1 4)) ∧ Below w.heap.size w w' := by
  obtain ⟨i0, hi, hz0, hz1, hz2⟩ := info_parts Try.info5
  have xa0 : IntKind.u64.wrap a0 = a0 := IntWalk.u64_in _ (by omega)
  have Ca0 := Lib.hid (show w.cell? ⟨p, 0, none⟩ = some (.int .u32 a0) from (cell_of_row _ _ 0 _ _ (0, 0) hp).trans rfl)
  have xa1 : IntKind.u64.wrap a1 = a1 := IntWalk.u64_in _ (by omega)
  have Ca1 := Lib.hid (show w.cell? ⟨p, 1, none⟩ = some (.int .u32 a1) from (cell_of_row _ _ 1 _ _ (0, 0) hp).trans rfl)
  clear hp
  go_enter Try.func131, Try.ntmps131
  go_wp2_with (at_make; go_must (refine wpList_make_full _ rfl _ _ 31 rfl w.heap.size 5 i0 (.int .u8 0) 1 Try.underlying31 hi hz0 hz1 .i64 .i64 _ _ 8 rfl rfl (by omega) (by omega) (by rw [hz2]; omega) (by unfold maxLen; omega) (Nat.le_refl _) ?_))
  intro w0 hown hgrow
  rw [toList_madeCells_one] at hown
  have B0 := Lib.hid ((Below.refl _ w).grown hgrow (Nat.le_refl _) (by intro k hk; cases hk))
  have O0 := Lib.hid hown
  clear hown hgrow
  have da0 := cells_one B0.out Ca0.out
  go_wp2_with fail
  refine (putLE_calls w.heap.size w.heap.size 8 8 0 8 8 0 4 0 4 _ a0 _ (by omega) O0.out (by decide) (by decide) (by decide) (by decide) rfl rfl).mono ?_
  rintro e w1 ⟨rfl, ho, hg⟩
  have B1 := Lib.hid (B0.out.grown hg B0.out.size (fun k hk => by injection hk with hk; omega))
  have O1 := Lib.hid ho
  clear ho hg da0
  have da1 := cells_one B1.out Ca1.out
  go_wp2_with fail
  refine (putLE_calls w.heap.size w.heap.size 8 8 0 8 8 4 4 4 4 _ a1 _ (by omega) O1.out (by decide) (by decide) (by decide) (by decide) rfl rfl).mono ?_
  rintro e w2 ⟨rfl, ho, hg⟩
  have B2 := Lib.hid (B1.out.grown hg B1.out.size (fun k hk => by injection hk with hk; omega))
  have O2 := Lib.hid ho
  clear ho hg da1
  go_wp2_with fail
  go_ret
  refine ⟨_, rfl, ?_, B2.out⟩
  have h := O2.out
  have e : putB (putB (List.replicate 8 (Value.int .u8 0)) (0 + 0) a0 4) (0 + 4) a1 4 = bytesC (lowB a0 4 ++ lowB a1 4) := by simp [putB, List.range_succ, bytesC, lowB, List.replicate]
  rw [e] at h
  exact h

set_option maxHeartbeats 1000000 in
set_option maxRecDepth 100000 in
theorem serUint32Bitfield_calls (p : Nat) (a0 a1 : Int) (w : World) (ha0 : 0 ≤ a0 ∧ a0 < 4294967296) (ha1 : 0 ≤ a1 ∧ a1 < 4294967296) (hp : w.heap[p]? = some (.cells #[.int .u32 a0, .int .u32 a1] 186 (0, 0))) :
    Calls Try.prog 109 #[.pointer (some ⟨p, 0, none⟩)] w fun e w' => ∃ v, e = .returned v ∧ w'.ownsRow w.heap.size 5 1 v 8 (bytesC (lowB a0 4 ++ lowB a1 4)) ∧ Below w.heap.size w w' := by
  have HP := Lib.hid hp
  clear hp
  go_enter Try.func109, Try.ntmps109
  go_wp2_with fail
  refine (encUint32Bitfield_calls p a0 a1 w ha0 ha1 HP.out).mono ?_
  rintro e w1 ⟨v, rfl, ho, hb⟩
  have HO := Lib.hid ho
  have HB := Lib.hid hb
  clear ho hb
  go_wp2_with fail
  go_ret
  exact ⟨v, rfl, HO.out, HB.out⟩

end Go.Proofs.Ytbogknjgjbhagaa
