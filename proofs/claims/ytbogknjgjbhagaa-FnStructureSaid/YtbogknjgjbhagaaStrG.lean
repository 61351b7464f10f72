/- The thin package's bytes of each structure: two more. -/
import Derived.Test.YtbogknjgjbhagaaStrE
import Derived.Deep.RegionHeld3
import Derived.IntWalk
namespace Go.Proofs.Ytbogknjgjbhagaa
open Go.RowKit
set_option linter.unusedSimpArgs false
set_option linter.unusedVariables false

set_option maxHeartbeats 1000000 in
set_option maxRecDepth 100000 in
theorem newCnMsgOp_calls (a0 a1 a6 : Int) (w : World) :
    Calls Try.prog 106 #[.int .u32 a0, .int .u32 a1, .int .u32 a6] w fun e w' => ∃ g, e = .returned (.pointer (some ⟨g, 0, none⟩)) ∧ w.heap.size ≤ g ∧ w'.heap[g]? = some (.cells #[.int .u32 a0, .int .u32 a1, .int .u32 1, .int .u32 0, .int .u16 4, .int .u16 0, .int .u32 a6] 180 (0, 0)) ∧ Below w.heap.size w w' := by
  go_enter Try.func106, Try.ntmps106
  go_wp2_with fail
  go_ret
  exact ⟨_, rfl, Nat.le_refl _, heap_alloc_new w _, (Below.refl _ w).alloc (Nat.le_refl _) _⟩

set_option maxHeartbeats 4000000 in
set_option maxRecDepth 100000 in
theorem form6_calls (b o c : Nat) (a0 a1 a2 a3 a4 a5 a6 : Int) (w : World) (ha0 : 0 ≤ a0 ∧ a0 < 4294967296) (ha1 : 0 ≤ a1 ∧ a1 < 4294967296) (ha2 : 0 ≤ a2 ∧ a2 < 4294967296) (ha3 : 0 ≤ a3 ∧ a3 < 4294967296) (ha4 : 0 ≤ a4 ∧ a4 < 65536) (ha5 : 0 ≤ a5 ∧ a5 < 65536) (ha6 : 0 ≤ a6 ∧ a6 < 4294967296) (f0 : w.cell? ⟨b, o, none⟩ = some (.int .u64 a0)) (f1 : w.cell? ⟨b, o + 1, none⟩ = some (.int .u64 a1)) (f2 : w.cell? ⟨b, o + 2, none⟩ = some (.int .u64 a2)) (f3 : w.cell? ⟨b, o + 3, none⟩ = some (.int .u64 a3)) (f4 : w.cell? ⟨b, o + 4, none⟩ = some (.int .u64 a4)) (f5 : w.cell? ⟨b, o + 5, none⟩ = some (.int .u64 a5)) (f6 : w.cell? ⟨b, o + 6, none⟩ = some (.int .u64 a6)) :
    Calls Try.prog 73 #[.int .i64 6, .slice (some ⟨b, o, none⟩) 7 c] w fun e w' => ∃ v, e = .returned v ∧ w'.ownsRow w.heap.size 5 1 v 24 (bytesC (lowB a0 4 ++ lowB a1 4 ++ lowB a2 4 ++ lowB a3 4 ++ lowB a4 2 ++ lowB a5 2 ++ lowB a6 4)) ∧ Below w.heap.size w w' := by
  have xa0 : IntKind.u32.wrap a0 = a0 := IntWalk.u32_in _ (by omega)
  have xa1 : IntKind.u32.wrap a1 = a1 := IntWalk.u32_in _ (by omega)
  have xa2 : IntKind.u32.wrap a2 = a2 := IntWalk.u32_in _ (by omega)
  have xa3 : IntKind.u32.wrap a3 = a3 := IntWalk.u32_in _ (by omega)
  have xa4 : IntKind.u16.wrap a4 = a4 := IntWalk.u16_in _ (by omega)
  have xa5 : IntKind.u16.wrap a5 = a5 := IntWalk.u16_in _ (by omega)
  have xa6 : IntKind.u32.wrap a6 = a6 := IntWalk.u32_in _ (by omega)
  have KS : Hid (∀ w' : World, Below w.heap.size w w' → w'.cell? ⟨b, o, none⟩ = some (.int .u64 a0) ∧ w'.cell? ⟨b, o + 1, none⟩ = some (.int .u64 a1) ∧ w'.cell? ⟨b, o + 2, none⟩ = some (.int .u64 a2) ∧ w'.cell? ⟨b, o + 3, none⟩ = some (.int .u64 a3) ∧ w'.cell? ⟨b, o + 4, none⟩ = some (.int .u64 a4) ∧ w'.cell? ⟨b, o + 5, none⟩ = some (.int .u64 a5) ∧ w'.cell? ⟨b, o + 6, none⟩ = some (.int .u64 a6) ∧ Below w.heap.size w w') := fun W hW => ⟨cells_one hW f0, cells_one hW f1, cells_one hW f2, cells_one hW f3, cells_one hW f4, cells_one hW f5, cells_one hW f6, hW⟩
  go_enter Try.func73, Try.ntmps73
  go_wp2_with fail
  refine wp_region_held_drew (S := fun w' => w'.cell? ⟨b, o, none⟩ = some (.int .u64 a0) ∧ w'.cell? ⟨b, o + 1, none⟩ = some (.int .u64 a1) ∧ w'.cell? ⟨b, o + 2, none⟩ = some (.int .u64 a2) ∧ w'.cell? ⟨b, o + 3, none⟩ = some (.int .u64 a3) ∧ w'.cell? ⟨b, o + 4, none⟩ = some (.int .u64 a4) ∧ w'.cell? ⟨b, o + 5, none⟩ = some (.int .u64 a5) ∧ w'.cell? ⟨b, o + 6, none⟩ = some (.int .u64 a6) ∧ Below w.heap.size w w') (by kernel_rfl) (KS.out _ (Below.refl _ _).drew) (fun hHeld => ?_)
  refine wpAnyH_take (i := 0) (oi := ?o0Z) (v := ?v0Z) ?h0Z (by kernel_rfl) (by kernel_rfl) (by kernel_rfl) ?q0Z (Or.inl ⟨?w0Z, ?y0Z⟩) (by assumption) ?r0Z
  case h0Z => (simp only [List.getElem?_toArray, List.getElem?_cons_succ, List.getElem?_cons_zero] <;> rfl)
  case q0Z => exact fun _ _ _ h => h
  case w0Z => rfl
  case y0Z => (intro w hSw; (try dsimp only at hSw); go_simp; (try with_reducible rfl))
  try simp only [Act.put, List.setIfInBounds_toArray, List.set_cons_zero, List.set_cons_succ]
  refine wpAnyH_take (i := 1) (oi := ?o1Z) (v := ?v1Z) ?h1Z (by kernel_rfl) (by kernel_rfl) (by kernel_rfl) ?q1Z (Or.inl ⟨?w1Z, ?y1Z⟩) (by assumption) ?r1Z
  case h1Z => (simp only [List.getElem?_toArray, List.getElem?_cons_succ, List.getElem?_cons_zero] <;> rfl)
  case q1Z => exact fun _ _ _ h => h
  case w1Z => rfl
  case y1Z => (intro w hSw; (try dsimp only at hSw); go_simp; (try with_reducible rfl))
  try simp only [Act.put, List.setIfInBounds_toArray, List.set_cons_zero, List.set_cons_succ]
  refine wpAnyH_take (i := 2) (oi := ?o2Z) (v := ?v2Z) ?h2Z (by kernel_rfl) (by kernel_rfl) (by kernel_rfl) ?q2Z (Or.inl ⟨?w2Z, ?y2Z⟩) (by assumption) ?r2Z
  case h2Z => (simp only [List.getElem?_toArray, List.getElem?_cons_succ, List.getElem?_cons_zero] <;> rfl)
  case q2Z => exact fun _ _ _ h => h
  case w2Z => rfl
  case y2Z => (intro w hSw; (try dsimp only at hSw); go_simp; (try with_reducible rfl))
  try simp only [Act.put, List.setIfInBounds_toArray, List.set_cons_zero, List.set_cons_succ]
  refine wpAnyH_take (i := 3) (oi := ?o3Z) (v := ?v3Z) ?h3Z (by kernel_rfl) (by kernel_rfl) (by kernel_rfl) ?q3Z (Or.inl ⟨?w3Z, ?y3Z⟩) (by assumption) ?r3Z
  case h3Z => (simp only [List.getElem?_toArray, List.getElem?_cons_succ, List.getElem?_cons_zero] <;> rfl)
  case q3Z => exact fun _ _ _ h => h
  case w3Z => rfl
  case y3Z => (intro w hSw; (try dsimp only at hSw); go_simp; (try with_reducible rfl))
  try simp only [Act.put, List.setIfInBounds_toArray, List.set_cons_zero, List.set_cons_succ]
  refine wpAnyH_take (i := 4) (oi := ?o4Z) (v := ?v4Z) ?h4Z (by kernel_rfl) (by kernel_rfl) (by kernel_rfl) ?q4Z (Or.inl ⟨?w4Z, ?y4Z⟩) (by assumption) ?r4Z
  case h4Z => (simp only [List.getElem?_toArray, List.getElem?_cons_succ, List.getElem?_cons_zero] <;> rfl)
  case q4Z => exact fun _ _ _ h => h
  case w4Z => rfl
  case y4Z => (intro w hSw; (try dsimp only at hSw); go_simp; (try with_reducible rfl))
  try simp only [Act.put, List.setIfInBounds_toArray, List.set_cons_zero, List.set_cons_succ]
  refine wpAnyH_take (i := 5) (oi := ?o5Z) (v := ?v5Z) ?h5Z (by kernel_rfl) (by kernel_rfl) (by kernel_rfl) ?q5Z (Or.inl ⟨?w5Z, ?y5Z⟩) (by assumption) ?r5Z
  case h5Z => (simp only [List.getElem?_toArray, List.getElem?_cons_succ, List.getElem?_cons_zero] <;> rfl)
  case q5Z => exact fun _ _ _ h => h
  case w5Z => rfl
  case y5Z => (intro w hSw; (try dsimp only at hSw); go_simp; (try with_reducible rfl))
  try simp only [Act.put, List.setIfInBounds_toArray, List.set_cons_zero, List.set_cons_succ]
  refine wpAnyH_take (i := 6) (oi := ?o6Z) (v := ?v6Z) ?h6Z (by kernel_rfl) (by kernel_rfl) (by kernel_rfl) ?q6Z (Or.inl ⟨?w6Z, ?y6Z⟩) (by assumption) ?r6Z
  case h6Z => (simp only [List.getElem?_toArray, List.getElem?_cons_succ, List.getElem?_cons_zero] <;> rfl)
  case q6Z => exact fun _ _ _ h => h
  case w6Z => rfl
  case y6Z => (intro w hSw; (try dsimp only at hSw); go_simp; (try with_reducible rfl))
  try simp only [Act.put, List.setIfInBounds_toArray, List.set_cons_zero, List.set_cons_succ]
  refine wpAnyH_take (i := 7) (oi := ?o7Z) (v := ?v7Z) ?h7Z (by kernel_rfl) (by kernel_rfl) (by kernel_rfl) ?q7Z (Or.inl ⟨?w7Z, ?y7Z⟩) (by assumption) ?r7Z
  case h7Z => (simp only [List.getElem?_toArray, List.getElem?_cons_succ, List.getElem?_cons_zero] <;> rfl)
  case q7Z => exact fun _ _ _ h => h
  case w7Z => rfl
  case y7Z => (intro w hSw; (try dsimp only at hSw); go_simp; (try with_reducible rfl))
  try simp only [Act.put, List.setIfInBounds_toArray, List.set_cons_zero, List.set_cons_succ]
  refine wpAnyH_take (i := 8) (oi := ?o8Z) (v := ?v8Z) ?h8Z (by kernel_rfl) (by kernel_rfl) (by kernel_rfl) ?q8Z (Or.inl ⟨?w8Z, ?y8Z⟩) (by assumption) ?r8Z
  case h8Z => (simp only [List.getElem?_toArray, List.getElem?_cons_succ, List.getElem?_cons_zero] <;> rfl)
  case q8Z => exact fun _ _ _ h => h
  case w8Z => rfl
  case y8Z => (intro w hSw; (try dsimp only at hSw); go_simp; (try with_reducible rfl))
  try simp only [Act.put, List.setIfInBounds_toArray, List.set_cons_zero, List.set_cons_succ]
  refine wpAnyH_take (i := 9) (oi := ?o9Z) (v := ?v9Z) ?h9Z (by kernel_rfl) (by kernel_rfl) (by kernel_rfl) ?q9Z (Or.inl ⟨?w9Z, ?y9Z⟩) (by assumption) ?r9Z
  case h9Z => (simp only [List.getElem?_toArray, List.getElem?_cons_succ, List.getElem?_cons_zero] <;> rfl)
  case q9Z => exact fun _ _ _ h => h
  case w9Z => rfl
  case y9Z => (intro w hSw; (try dsimp only at hSw); go_simp; (try with_reducible rfl))
  try simp only [Act.put, List.setIfInBounds_toArray, List.set_cons_zero, List.set_cons_succ]
  refine wpAnyH_take (i := 10) (oi := ?o10Z) (v := ?v10Z) ?h10Z (by kernel_rfl) (by kernel_rfl) (by kernel_rfl) ?q10Z (Or.inl ⟨?w10Z, ?y10Z⟩) (by assumption) ?r10Z
  case h10Z => (simp only [List.getElem?_toArray, List.getElem?_cons_succ, List.getElem?_cons_zero] <;> rfl)
  case q10Z => exact fun _ _ _ h => h
  case w10Z => rfl
  case y10Z => (intro w hSw; (try dsimp only at hSw); go_simp; (try with_reducible rfl))
  try simp only [Act.put, List.setIfInBounds_toArray, List.set_cons_zero, List.set_cons_succ]
  refine wpAnyH_take (i := 11) (oi := ?o11Z) (v := ?v11Z) ?h11Z (by kernel_rfl) (by kernel_rfl) (by kernel_rfl) ?q11Z (Or.inl ⟨?w11Z, ?y11Z⟩) (by assumption) ?r11Z
  case h11Z => (simp only [List.getElem?_toArray, List.getElem?_cons_succ, List.getElem?_cons_zero] <;> rfl)
  case q11Z => exact fun _ _ _ h => h
  case w11Z => rfl
  case y11Z => (intro w hSw; (try dsimp only at hSw); go_simp; (try with_reducible rfl))
  try simp only [Act.put, List.setIfInBounds_toArray, List.set_cons_zero, List.set_cons_succ]
  refine wpAnyH_ready (rs := [12]) (by kernel_rfl) (by simp) ?_
  refine AllReadyH.cons (o := ?o12Z) ?h12Z (fun K hK => ?_) AllReadyH.nil
  case h12Z => (simp only [List.getElem?_toArray, List.getElem?_cons_succ, List.getElem?_cons_zero] <;> rfl)
  go_simp
  refine (newCnMsgOp_calls a0 a1 a6 _).mono ?_
  rintro e w1 ⟨g, rfl, hg0, hg, hb0⟩
  have hb1 : Below w.heap.size w w1 := below_trans (Below.refl _ w).drew hb0
  have p2 : w1.cell? ⟨g, 2, none⟩ = some (.int .u32 1) := (cell_of_row _ _ 2 _ _ (0, 0) hg).trans rfl
  have r2 : w1.frozen? ⟨g, 2, none⟩ = false := frozen_of_row _ _ 2 _ _ hg
  have p3 : w1.cell? ⟨g, 3, none⟩ = some (.int .u32 0) := (cell_of_row _ _ 3 _ _ (0, 0) hg).trans rfl
  have r3 : w1.frozen? ⟨g, 3, none⟩ = false := frozen_of_row _ _ 3 _ _ hg
  have p4 : w1.cell? ⟨g, 4, none⟩ = some (.int .u16 4) := (cell_of_row _ _ 4 _ _ (0, 0) hg).trans rfl
  have r4 : w1.frozen? ⟨g, 4, none⟩ = false := frozen_of_row _ _ 4 _ _ hg
  have p5 : w1.cell? ⟨g, 5, none⟩ = some (.int .u16 0) := (cell_of_row _ _ 5 _ _ (0, 0) hg).trans rfl
  have r5 : w1.frozen? ⟨g, 5, none⟩ = false := frozen_of_row _ _ 5 _ _ hg
  have HG := Lib.hid hg
  have hgw : w.heap.size ≤ g := by simpa using hg0
  have hs1 := hb1.size
  clear hg hb0
  refine hK.out _ _ ?s12Z (fun hHeld => ?_)
  case s12Z => exact KS.out _ hb1
  clear hK K
  try simp only [Act.put, List.setIfInBounds_toArray, List.set_cons_zero, List.set_cons_succ]
  refine wpAnyH_take (i := 13) (oi := ?o13Z) (v := ?v13Z) ?h13Z (by kernel_rfl) (by kernel_rfl) (by kernel_rfl) ?q13Z (Or.inl ⟨?w13Z, ?y13Z⟩) (by assumption) ?r13Z
  case h13Z => (simp only [List.getElem?_toArray, List.getElem?_cons_succ, List.getElem?_cons_zero] <;> rfl)
  case q13Z => exact fun _ _ _ h => h
  case w13Z => rfl
  case y13Z => (intro w hSw; (try dsimp only at hSw); go_simp; (try with_reducible rfl))
  try simp only [Act.put, List.setIfInBounds_toArray, List.set_cons_zero, List.set_cons_succ]
  refine wpAnyH_done (by kernel_rfl) ?_ _
  clear hHeld
  obtain ⟨g0, g1, g2, g3, g4, g5, g6, -⟩ := KS.out _ hb1
  go_wp2_with fail
  refine wp_region_held_drew (S := fun w' => w'.cell? ⟨b, o, none⟩ = some (.int .u64 a0) ∧ w'.cell? ⟨b, o + 1, none⟩ = some (.int .u64 a1) ∧ w'.cell? ⟨b, o + 2, none⟩ = some (.int .u64 a2) ∧ w'.cell? ⟨b, o + 3, none⟩ = some (.int .u64 a3) ∧ w'.cell? ⟨b, o + 4, none⟩ = some (.int .u64 a4) ∧ w'.cell? ⟨b, o + 5, none⟩ = some (.int .u64 a5) ∧ w'.cell? ⟨b, o + 6, none⟩ = some (.int .u64 a6) ∧ Below w.heap.size w w') (by kernel_rfl) (KS.out _ hb1.drew) (fun hHeld => ?_)
  refine wpAnyH_take (i := 0) (oi := ?o0A) (v := ?v0A) ?h0A (by kernel_rfl) (by kernel_rfl) (by kernel_rfl) ?q0A (Or.inl ⟨?w0A, ?y0A⟩) (by assumption) ?r0A
  case h0A => (simp only [List.getElem?_toArray, List.getElem?_cons_succ, List.getElem?_cons_zero] <;> rfl)
  case q0A => exact fun _ _ _ h => h
  case w0A => rfl
  case y0A => (intro w hSw; (try dsimp only at hSw); go_simp; (try with_reducible rfl))
  try simp only [Act.put, List.setIfInBounds_toArray, List.set_cons_zero, List.set_cons_succ]
  refine wpAnyH_take (i := 1) (oi := ?o1A) (v := ?v1A) ?h1A (by kernel_rfl) (by kernel_rfl) (by kernel_rfl) ?q1A (Or.inl ⟨?w1A, ?y1A⟩) (by assumption) ?r1A
  case h1A => (simp only [List.getElem?_toArray, List.getElem?_cons_succ, List.getElem?_cons_zero] <;> rfl)
  case q1A => exact fun _ _ _ h => h
  case w1A => rfl
  case y1A => (intro w hSw; (try dsimp only at hSw); go_simp; (try with_reducible rfl))
  try simp only [Act.put, List.setIfInBounds_toArray, List.set_cons_zero, List.set_cons_succ]
  refine wpAnyH_take (i := 2) (oi := ?o2A) (v := ?v2A) ?h2A (by kernel_rfl) (by kernel_rfl) (by kernel_rfl) ?q2A (Or.inl ⟨?w2A, ?y2A⟩) (by assumption) ?r2A
  case h2A => (simp only [List.getElem?_toArray, List.getElem?_cons_succ, List.getElem?_cons_zero] <;> rfl)
  case q2A => exact fun _ _ _ h => h
  case w2A => rfl
  case y2A => (intro w hSw; (try dsimp only at hSw); go_simp; (try with_reducible rfl))
  try simp only [Act.put, List.setIfInBounds_toArray, List.set_cons_zero, List.set_cons_succ]
  refine wpAnyH_take (i := 3) (oi := ?o3A) (v := ?v3A) ?h3A (by kernel_rfl) (by kernel_rfl) (by kernel_rfl) ?q3A (Or.inl ⟨?w3A, ?y3A⟩) (by assumption) ?r3A
  case h3A => (simp only [List.getElem?_toArray, List.getElem?_cons_succ, List.getElem?_cons_zero] <;> rfl)
  case q3A => exact fun _ _ _ h => h
  case w3A => rfl
  case y3A => (intro w hSw; (try dsimp only at hSw); go_simp; (try with_reducible rfl))
  try simp only [Act.put, List.setIfInBounds_toArray, List.set_cons_zero, List.set_cons_succ]
  refine wpAnyH_take (i := 4) (oi := ?o4A) (v := ?v4A) ?h4A (by kernel_rfl) (by kernel_rfl) (by kernel_rfl) ?q4A (Or.inl ⟨?w4A, ?y4A⟩) (by assumption) ?r4A
  case h4A => (simp only [List.getElem?_toArray, List.getElem?_cons_succ, List.getElem?_cons_zero] <;> rfl)
  case q4A => exact fun _ _ _ h => h
  case w4A => rfl
  case y4A => (intro w hSw; (try dsimp only at hSw); go_simp; (try with_reducible rfl))
  try simp only [Act.put, List.setIfInBounds_toArray, List.set_cons_zero, List.set_cons_succ]
  refine wpAnyH_take (i := 5) (oi := ?o5A) (v := ?v5A) ?h5A (by kernel_rfl) (by kernel_rfl) (by kernel_rfl) ?q5A (Or.inl ⟨?w5A, ?y5A⟩) (by assumption) ?r5A
  case h5A => (simp only [List.getElem?_toArray, List.getElem?_cons_succ, List.getElem?_cons_zero] <;> rfl)
  case q5A => exact fun _ _ _ h => h
  case w5A => rfl
  case y5A => (intro w hSw; (try dsimp only at hSw); go_simp; (try with_reducible rfl))
  try simp only [Act.put, List.setIfInBounds_toArray, List.set_cons_zero, List.set_cons_succ]
  refine wpAnyH_take (i := 6) (oi := ?o6A) (v := ?v6A) ?h6A (by kernel_rfl) (by kernel_rfl) (by kernel_rfl) ?q6A (Or.inl ⟨?w6A, ?y6A⟩) (by assumption) ?r6A
  case h6A => (simp only [List.getElem?_toArray, List.getElem?_cons_succ, List.getElem?_cons_zero] <;> rfl)
  case q6A => exact fun _ _ _ h => h
  case w6A => rfl
  case y6A => (intro w hSw; (try dsimp only at hSw); go_simp; (try with_reducible rfl))
  try simp only [Act.put, List.setIfInBounds_toArray, List.set_cons_zero, List.set_cons_succ]
  refine wpAnyH_take (i := 7) (oi := ?o7A) (v := ?v7A) ?h7A (by kernel_rfl) (by kernel_rfl) (by kernel_rfl) ?q7A (Or.inl ⟨?w7A, ?y7A⟩) (by assumption) ?r7A
  case h7A => (simp only [List.getElem?_toArray, List.getElem?_cons_succ, List.getElem?_cons_zero] <;> rfl)
  case q7A => exact fun _ _ _ h => h
  case w7A => rfl
  case y7A => (intro w hSw; (try dsimp only at hSw); go_simp; (try with_reducible rfl))
  try simp only [Act.put, List.setIfInBounds_toArray, List.set_cons_zero, List.set_cons_succ]
  refine wpAnyH_take (i := 8) (oi := ?o8A) (v := ?v8A) ?h8A (by kernel_rfl) (by kernel_rfl) (by kernel_rfl) ?q8A (Or.inl ⟨?w8A, ?y8A⟩) (by assumption) ?r8A
  case h8A => (simp only [List.getElem?_toArray, List.getElem?_cons_succ, List.getElem?_cons_zero] <;> rfl)
  case q8A => exact fun _ _ _ h => h
  case w8A => rfl
  case y8A => (intro w hSw; (try dsimp only at hSw); go_simp; (try with_reducible rfl))
  try simp only [Act.put, List.setIfInBounds_toArray, List.set_cons_zero, List.set_cons_succ]
  refine wpAnyH_take (i := 9) (oi := ?o9A) (v := ?v9A) ?h9A (by kernel_rfl) (by kernel_rfl) (by kernel_rfl) ?q9A (Or.inl ⟨?w9A, ?y9A⟩) (by assumption) ?r9A
  case h9A => (simp only [List.getElem?_toArray, List.getElem?_cons_succ, List.getElem?_cons_zero] <;> rfl)
  case q9A => exact fun _ _ _ h => h
  case w9A => rfl
  case y9A => (intro w hSw; (try dsimp only at hSw); go_simp; (try with_reducible rfl))
  try simp only [Act.put, List.setIfInBounds_toArray, List.set_cons_zero, List.set_cons_succ]
  refine wpAnyH_take (i := 10) (oi := ?o10A) (v := ?v10A) ?h10A (by kernel_rfl) (by kernel_rfl) (by kernel_rfl) ?q10A (Or.inl ⟨?w10A, ?y10A⟩) (by assumption) ?r10A
  case h10A => (simp only [List.getElem?_toArray, List.getElem?_cons_succ, List.getElem?_cons_zero] <;> rfl)
  case q10A => exact fun _ _ _ h => h
  case w10A => rfl
  case y10A => (intro w hSw; (try dsimp only at hSw); go_simp; (try with_reducible rfl))
  try simp only [Act.put, List.setIfInBounds_toArray, List.set_cons_zero, List.set_cons_succ]
  refine wpAnyH_take (i := 11) (oi := ?o11A) (v := ?v11A) ?h11A (by kernel_rfl) (by kernel_rfl) (by kernel_rfl) ?q11A (Or.inl ⟨?w11A, ?y11A⟩) (by assumption) ?r11A
  case h11A => (simp only [List.getElem?_toArray, List.getElem?_cons_succ, List.getElem?_cons_zero] <;> rfl)
  case q11A => exact fun _ _ _ h => h
  case w11A => rfl
  case y11A => (intro w hSw; (try dsimp only at hSw); go_simp; (try with_reducible rfl))
  try simp only [Act.put, List.setIfInBounds_toArray, List.set_cons_zero, List.set_cons_succ]
  refine wpAnyH_take (i := 12) (oi := ?o12A) (v := ?v12A) ?h12A (by kernel_rfl) (by kernel_rfl) (by kernel_rfl) ?q12A (Or.inl ⟨?w12A, ?y12A⟩) (by assumption) ?r12A
  case h12A => (simp only [List.getElem?_toArray, List.getElem?_cons_succ, List.getElem?_cons_zero] <;> rfl)
  case q12A => exact fun _ _ _ h => h
  case w12A => rfl
  case y12A => (intro w hSw; (try dsimp only at hSw); go_simp; (try with_reducible rfl))
  try simp only [Act.put, List.setIfInBounds_toArray, List.set_cons_zero, List.set_cons_succ]
  refine wpAnyH_take (i := 13) (oi := ?o13A) (v := ?v13A) ?h13A (by kernel_rfl) (by kernel_rfl) (by kernel_rfl) ?q13A (Or.inl ⟨?w13A, ?y13A⟩) (by assumption) ?r13A
  case h13A => (simp only [List.getElem?_toArray, List.getElem?_cons_succ, List.getElem?_cons_zero] <;> rfl)
  case q13A => exact fun _ _ _ h => h
  case w13A => rfl
  case y13A => (intro w hSw; (try dsimp only at hSw); go_simp; (try with_reducible rfl))
  try simp only [Act.put, List.setIfInBounds_toArray, List.set_cons_zero, List.set_cons_succ]
  refine wpAnyH_take (i := 14) (oi := ?o14A) (v := ?v14A) ?h14A (by kernel_rfl) (by kernel_rfl) (by kernel_rfl) ?q14A (Or.inl ⟨?w14A, ?y14A⟩) (by assumption) ?r14A
  case h14A => (simp only [List.getElem?_toArray, List.getElem?_cons_succ, List.getElem?_cons_zero] <;> rfl)
  case q14A => exact fun _ _ _ h => h
  case w14A => rfl
  case y14A => (intro w hSw; (try dsimp only at hSw); go_simp; (try with_reducible rfl))
  try simp only [Act.put, List.setIfInBounds_toArray, List.set_cons_zero, List.set_cons_succ]
  refine wpAnyH_take (i := 15) (oi := ?o15A) (v := ?v15A) ?h15A (by kernel_rfl) (by kernel_rfl) (by kernel_rfl) ?q15A (Or.inl ⟨?w15A, ?y15A⟩) (by assumption) ?r15A
  case h15A => (simp only [List.getElem?_toArray, List.getElem?_cons_succ, List.getElem?_cons_zero] <;> rfl)
  case q15A => exact fun _ _ _ h => h
  case w15A => rfl
  case y15A => (intro w hSw; (try dsimp only at hSw); go_simp; (try with_reducible rfl))
  try simp only [Act.put, List.setIfInBounds_toArray, List.set_cons_zero, List.set_cons_succ]
  refine wpAnyH_take (i := 16) (oi := ?o16A) (v := ?v16A) ?h16A (by kernel_rfl) (by kernel_rfl) (by kernel_rfl) ?q16A (Or.inl ⟨?w16A, ?y16A⟩) (by assumption) ?r16A
  case h16A => (simp only [List.getElem?_toArray, List.getElem?_cons_succ, List.getElem?_cons_zero] <;> rfl)
  case q16A => exact fun _ _ _ h => h
  case w16A => rfl
  case y16A => (intro w hSw; (try dsimp only at hSw); go_simp; (try with_reducible rfl))
  try simp only [Act.put, List.setIfInBounds_toArray, List.set_cons_zero, List.set_cons_succ]
  refine wpAnyH_take (i := 17) (oi := ?o17A) (v := ?v17A) ?h17A (by kernel_rfl) (by kernel_rfl) (by kernel_rfl) ?q17A (Or.inl ⟨?w17A, ?y17A⟩) (by assumption) ?r17A
  case h17A => (simp only [List.getElem?_toArray, List.getElem?_cons_succ, List.getElem?_cons_zero] <;> rfl)
  case q17A => exact fun _ _ _ h => h
  case w17A => rfl
  case y17A => (intro w hSw; (try dsimp only at hSw); go_simp; (try with_reducible rfl))
  try simp only [Act.put, List.setIfInBounds_toArray, List.set_cons_zero, List.set_cons_succ]
  refine wpAnyH_take (i := 18) (oi := ?o18A) (v := ?v18A) ?h18A (by kernel_rfl) (by kernel_rfl) (by kernel_rfl) ?q18A (Or.inl ⟨?w18A, ?y18A⟩) (by assumption) ?r18A
  case h18A => (simp only [List.getElem?_toArray, List.getElem?_cons_succ, List.getElem?_cons_zero] <;> rfl)
  case q18A => exact fun _ _ _ h => h
  case w18A => rfl
  case y18A => (intro w hSw; (try dsimp only at hSw); go_simp; (try with_reducible rfl))
  try simp only [Act.put, List.setIfInBounds_toArray, List.set_cons_zero, List.set_cons_succ]
  refine wpAnyH_take (i := 19) (oi := ?o19A) (v := ?v19A) ?h19A (by kernel_rfl) (by kernel_rfl) (by kernel_rfl) ?q19A (Or.inl ⟨?w19A, ?y19A⟩) (by assumption) ?r19A
  case h19A => (simp only [List.getElem?_toArray, List.getElem?_cons_succ, List.getElem?_cons_zero] <;> rfl)
  case q19A => exact fun _ _ _ h => h
  case w19A => rfl
  case y19A => (intro w hSw; (try dsimp only at hSw); go_simp; (try with_reducible rfl))
  try simp only [Act.put, List.setIfInBounds_toArray, List.set_cons_zero, List.set_cons_succ]
  refine wpAnyH_take (i := 20) (oi := ?o20A) (v := ?v20A) ?h20A (by kernel_rfl) (by kernel_rfl) (by kernel_rfl) ?q20A (Or.inl ⟨?w20A, ?y20A⟩) (by assumption) ?r20A
  case h20A => (simp only [List.getElem?_toArray, List.getElem?_cons_succ, List.getElem?_cons_zero] <;> rfl)
  case q20A => exact fun _ _ _ h => h
  case w20A => rfl
  case y20A => (intro w hSw; (try dsimp only at hSw); go_simp; (try with_reducible rfl))
  try simp only [Act.put, List.setIfInBounds_toArray, List.set_cons_zero, List.set_cons_succ]
  refine wpAnyH_take (i := 21) (oi := ?o21A) (v := ?v21A) ?h21A (by kernel_rfl) (by kernel_rfl) (by kernel_rfl) ?q21A (Or.inl ⟨?w21A, ?y21A⟩) (by assumption) ?r21A
  case h21A => (simp only [List.getElem?_toArray, List.getElem?_cons_succ, List.getElem?_cons_zero] <;> rfl)
  case q21A => exact fun _ _ _ h => h
  case w21A => rfl
  case y21A => (intro w hSw; (try dsimp only at hSw); go_simp; (try with_reducible rfl))
  try simp only [Act.put, List.setIfInBounds_toArray, List.set_cons_zero, List.set_cons_succ]
  refine wpAnyH_take (i := 22) (oi := ?o22A) (v := ?v22A) ?h22A (by kernel_rfl) (by kernel_rfl) (by kernel_rfl) ?q22A (Or.inl ⟨?w22A, ?y22A⟩) (by assumption) ?r22A
  case h22A => (simp only [List.getElem?_toArray, List.getElem?_cons_succ, List.getElem?_cons_zero] <;> rfl)
  case q22A => exact fun _ _ _ h => h
  case w22A => rfl
  case y22A => (intro w hSw; (try dsimp only at hSw); go_simp; (try with_reducible rfl))
  try simp only [Act.put, List.setIfInBounds_toArray, List.set_cons_zero, List.set_cons_succ]
  refine wpAnyH_ready (rs := [23]) (by kernel_rfl) (by simp) ?_
  refine AllReadyH.cons (o := ?o23A) ?h23A (fun K hK => ?_) AllReadyH.nil
  case h23A => (simp only [List.getElem?_toArray, List.getElem?_cons_succ, List.getElem?_cons_zero] <;> rfl)
  go_simp
  refine hK.out _ _ ?s23A (fun hHeld => ?_)
  case s23A => exact KS.out _ (by go_grown)
  clear hK K
  try simp only [Act.put, List.setIfInBounds_toArray, List.set_cons_zero, List.set_cons_succ]
  refine wpAnyH_take (i := 24) (oi := ?o24A) (v := ?v24A) ?h24A (by kernel_rfl) (by kernel_rfl) (by kernel_rfl) ?q24A (Or.inl ⟨?w24A, ?y24A⟩) (by assumption) ?r24A
  case h24A => (simp only [List.getElem?_toArray, List.getElem?_cons_succ, List.getElem?_cons_zero] <;> rfl)
  case q24A => exact fun _ _ _ h => h
  case w24A => rfl
  case y24A => (intro w hSw; (try dsimp only at hSw); go_simp; (try with_reducible rfl))
  try simp only [Act.put, List.setIfInBounds_toArray, List.set_cons_zero, List.set_cons_succ]
  refine wpAnyH_take (i := 25) (oi := ?o25A) (v := ?v25A) ?h25A (by kernel_rfl) (by kernel_rfl) (by kernel_rfl) ?q25A (Or.inl ⟨?w25A, ?y25A⟩) (by assumption) ?r25A
  case h25A => (simp only [List.getElem?_toArray, List.getElem?_cons_succ, List.getElem?_cons_zero] <;> rfl)
  case q25A => exact fun _ _ _ h => h
  case w25A => rfl
  case y25A => (intro w hSw; (try dsimp only at hSw); go_simp; (try with_reducible rfl))
  try simp only [Act.put, List.setIfInBounds_toArray, List.set_cons_zero, List.set_cons_succ]
  refine wpAnyH_take (i := 26) (oi := ?o26A) (v := ?v26A) ?h26A (by kernel_rfl) (by kernel_rfl) (by kernel_rfl) ?q26A (Or.inl ⟨?w26A, ?y26A⟩) (by assumption) ?r26A
  case h26A => (simp only [List.getElem?_toArray, List.getElem?_cons_succ, List.getElem?_cons_zero] <;> rfl)
  case q26A => exact fun _ _ _ h => h
  case w26A => rfl
  case y26A => (intro w hSw; (try dsimp only at hSw); go_simp; (try with_reducible rfl))
  try simp only [Act.put, List.setIfInBounds_toArray, List.set_cons_zero, List.set_cons_succ]
  refine wpAnyH_ready (rs := [27]) (by kernel_rfl) (by simp) ?_
  refine AllReadyH.cons (o := ?o27A) ?h27A (fun K hK => ?_) AllReadyH.nil
  case h27A => (simp only [List.getElem?_toArray, List.getElem?_cons_succ, List.getElem?_cons_zero] <;> rfl)
  go_simp
  refine hK.out _ _ ?s27A (fun hHeld => ?_)
  case s27A => exact KS.out _ (by go_grown)
  clear hK K
  try simp only [Act.put, List.setIfInBounds_toArray, List.set_cons_zero, List.set_cons_succ]
  refine wpAnyH_take (i := 28) (oi := ?o28A) (v := ?v28A) ?h28A (by kernel_rfl) (by kernel_rfl) (by kernel_rfl) ?q28A (Or.inl ⟨?w28A, ?y28A⟩) (by assumption) ?r28A
  case h28A => (simp only [List.getElem?_toArray, List.getElem?_cons_succ, List.getElem?_cons_zero] <;> rfl)
  case q28A => exact fun _ _ _ h => h
  case w28A => rfl
  case y28A => (intro w hSw; (try dsimp only at hSw); go_simp; (try with_reducible rfl))
  try simp only [Act.put, List.setIfInBounds_toArray, List.set_cons_zero, List.set_cons_succ]
  refine wpAnyH_take (i := 29) (oi := ?o29A) (v := ?v29A) ?h29A (by kernel_rfl) (by kernel_rfl) (by kernel_rfl) ?q29A (Or.inl ⟨?w29A, ?y29A⟩) (by assumption) ?r29A
  case h29A => (simp only [List.getElem?_toArray, List.getElem?_cons_succ, List.getElem?_cons_zero] <;> rfl)
  case q29A => exact fun _ _ _ h => h
  case w29A => rfl
  case y29A => (intro w hSw; (try dsimp only at hSw); go_simp; (try with_reducible rfl))
  try simp only [Act.put, List.setIfInBounds_toArray, List.set_cons_zero, List.set_cons_succ]
  refine wpAnyH_take (i := 30) (oi := ?o30A) (v := ?v30A) ?h30A (by kernel_rfl) (by kernel_rfl) (by kernel_rfl) ?q30A (Or.inl ⟨?w30A, ?y30A⟩) (by assumption) ?r30A
  case h30A => (simp only [List.getElem?_toArray, List.getElem?_cons_succ, List.getElem?_cons_zero] <;> rfl)
  case q30A => exact fun _ _ _ h => h
  case w30A => rfl
  case y30A => (intro w hSw; (try dsimp only at hSw); go_simp; (try with_reducible rfl))
  try simp only [Act.put, List.setIfInBounds_toArray, List.set_cons_zero, List.set_cons_succ]
  refine wpAnyH_ready (rs := [31]) (by kernel_rfl) (by simp) ?_
  refine AllReadyH.cons (o := ?o31A) ?h31A (fun K hK => ?_) AllReadyH.nil
  case h31A => (simp only [List.getElem?_toArray, List.getElem?_cons_succ, List.getElem?_cons_zero] <;> rfl)
  go_simp
  refine hK.out _ _ ?s31A (fun hHeld => ?_)
  case s31A => exact KS.out _ (by go_grown)
  clear hK K
  try simp only [Act.put, List.setIfInBounds_toArray, List.set_cons_zero, List.set_cons_succ]
  refine wpAnyH_take (i := 32) (oi := ?o32A) (v := ?v32A) ?h32A (by kernel_rfl) (by kernel_rfl) (by kernel_rfl) ?q32A (Or.inl ⟨?w32A, ?y32A⟩) (by assumption) ?r32A
  case h32A => (simp only [List.getElem?_toArray, List.getElem?_cons_succ, List.getElem?_cons_zero] <;> rfl)
  case q32A => exact fun _ _ _ h => h
  case w32A => rfl
  case y32A => (intro w hSw; (try dsimp only at hSw); go_simp; (try with_reducible rfl))
  try simp only [Act.put, List.setIfInBounds_toArray, List.set_cons_zero, List.set_cons_succ]
  refine wpAnyH_take (i := 33) (oi := ?o33A) (v := ?v33A) ?h33A (by kernel_rfl) (by kernel_rfl) (by kernel_rfl) ?q33A (Or.inl ⟨?w33A, ?y33A⟩) (by assumption) ?r33A
  case h33A => (simp only [List.getElem?_toArray, List.getElem?_cons_succ, List.getElem?_cons_zero] <;> rfl)
  case q33A => exact fun _ _ _ h => h
  case w33A => rfl
  case y33A => (intro w hSw; (try dsimp only at hSw); go_simp; (try with_reducible rfl))
  try simp only [Act.put, List.setIfInBounds_toArray, List.set_cons_zero, List.set_cons_succ]
  refine wpAnyH_take (i := 34) (oi := ?o34A) (v := ?v34A) ?h34A (by kernel_rfl) (by kernel_rfl) (by kernel_rfl) ?q34A (Or.inl ⟨?w34A, ?y34A⟩) (by assumption) ?r34A
  case h34A => (simp only [List.getElem?_toArray, List.getElem?_cons_succ, List.getElem?_cons_zero] <;> rfl)
  case q34A => exact fun _ _ _ h => h
  case w34A => rfl
  case y34A => (intro w hSw; (try dsimp only at hSw); go_simp; (try with_reducible rfl))
  try simp only [Act.put, List.setIfInBounds_toArray, List.set_cons_zero, List.set_cons_succ]
  refine wpAnyH_ready (rs := [35]) (by kernel_rfl) (by simp) ?_
  refine AllReadyH.cons (o := ?o35A) ?h35A (fun K hK => ?_) AllReadyH.nil
  case h35A => (simp only [List.getElem?_toArray, List.getElem?_cons_succ, List.getElem?_cons_zero] <;> rfl)
  go_simp
  refine hK.out _ _ ?s35A (fun hHeld => ?_)
  case s35A => exact KS.out _ (by go_grown)
  clear hK K
  try simp only [Act.put, List.setIfInBounds_toArray, List.set_cons_zero, List.set_cons_succ]
  refine wpAnyH_done (by kernel_rfl) ?_ _
  have BW := Lib.hid hHeld.2.2.2.2.2.2.2
  clear hHeld
  go_wp2_with fail
  refine (serCnMsgOp_calls g a0 a1 a2 a3 a4 a5 a6 _ ha0 ha1 ha2 ha3 ha4 ha5 ha6 ?hb).mono ?_
  case hb => exact heap_setCell_same _ g 5 _ _ _ (heap_setCell_same _ g 4 _ _ _ (heap_setCell_same _ g 3 _ _ _ (heap_setCell_same _ g 2 _ _ _ HG.out)))
  rintro e w9 ⟨v, rfl, ho, hb⟩
  have hsz := BW.out.size
  have HO := Lib.hid (own_lower ho hsz)
  have HB := Lib.hid (BW.out.trans (hb.mono hsz))
  clear ho hb
  go_wp2_with fail
  go_ret
  exact ⟨v, rfl, HO.out, HB.out⟩

set_option maxHeartbeats 1000000 in
set_option maxRecDepth 100000 in
theorem newRtGen_calls (w : World) :
    Calls Try.prog 103 #[] w fun e w' => ∃ g, e = .returned (.pointer (some ⟨g, 0, none⟩)) ∧ w.heap.size ≤ g ∧ w'.heap[g]? = some (.cells #[.int .u8 0] 169 (0, 0)) ∧ Below w.heap.size w w' := by
  go_enter Try.func103, Try.ntmps103
  go_wp2_with fail
  go_ret
  exact ⟨_, rfl, Nat.le_refl _, heap_alloc_new w _, (Below.refl _ w).alloc (Nat.le_refl _) _⟩

set_option maxHeartbeats 1000000 in
theorem lenRtGen_calls (v : Value) (w : World) : Calls Try.prog 127 #[v] w fun e w' => e = .returned (.int .i64 4) ∧ w = w' := by
  go_enter Try.func127, Try.ntmps127
  go_wp2_with fail
  refine (align_calls 1 w (by omega)).mono ?_
  rintro e w' ⟨rfl, rfl⟩
  go_wp2_with fail
  go_ret
  exact ⟨rfl, rfl⟩

set_option maxHeartbeats 1000000 in
set_option maxRecDepth 100000 in
theorem serRtGen_calls (p : Nat) (a0 : Int) (w : World) (ha0 : 0 ≤ a0 ∧ a0 < 256) (hp : w.heap[p]? = some (.cells #[.int .u8 a0] 169 (0, 0))) :
    Calls Try.prog 104 #[.pointer (some ⟨p, 0, none⟩)] w fun e w' => ∃ v, e = .returned v ∧ w'.ownsRow w.heap.size 5 1 v 4 (bytesC (lowB a0 1 ++ [0, 0, 0])) ∧ Below w.heap.size w w' := by
  obtain ⟨i0, hi, hz0, hz1, hz2⟩ := info_parts Try.info5
  have c0 : w.cell? ⟨p, 0, none⟩ = some (.int .u8 a0) := (cell_of_row _ _ 0 _ _ (0, 0) hp).trans rfl
  have C0 := Lib.hid c0
  clear hp c0
  go_enter Try.func104, Try.ntmps104
  go_wp2_with (first
    | (go_at_call 127; refine (lenRtGen_calls _ _).mono ?_; rintro e w' ⟨rfl, rfl⟩)
    | (at_make; go_must (refine wpList_make_full _ rfl _ _ 31 rfl w.heap.size 5 i0 (.int .u8 0) 1 Try.underlying31 hi hz0 hz1 .i64 .i64 _ _ 4 rfl rfl (by omega) (by omega) (by rw [hz2]; omega) (by unfold maxLen; omega) (Nat.le_refl _) ?_)))
  intro w1 hown hgrow
  rw [toList_madeCells_one] at hown
  have hb : Below w.heap.size w w1 := (Below.refl _ w).grown hgrow (Nat.le_refl _) (by intro k hk; cases hk)
  have d0 := cells_one hb C0.out
  have e0 : w1.cell? ⟨w.heap.size, 0, none⟩ = some (.int .u8 0) := by rw [hown.cellAt _ (by omega)]; rfl
  have r0 := hown.frozenAt 0
  have HO := Lib.hid hown
  have HB := Lib.hid hb
  clear hown hgrow hb
  go_wp2_with fail
  go_ret
  refine ⟨_, rfl, ?_, HB.out.setCell (Nat.le_refl _) _⟩
  have h := own_set HO.out 0 (.int .u8 a0)
  have e : (List.replicate 4 (Value.int .u8 0)).set 0 (.int .u8 a0) = bytesC (lowB a0 1 ++ [0, 0, 0]) := by
    have x : byteLe a0 0 = a0 := by simp [byteLe]; omega
    simp [bytesC, lowB, List.range_succ, List.replicate, x]
  rw [e] at h
  exact h

set_option maxHeartbeats 2000000 in
set_option maxRecDepth 100000 in
theorem form4_calls (b o c : Nat) (a0 : Int) (w : World) (ha0 : 0 ≤ a0 ∧ a0 < 256) (f0 : w.cell? ⟨b, o, none⟩ = some (.int .u64 a0)) :
    Calls Try.prog 73 #[.int .i64 4, .slice (some ⟨b, o, none⟩) 1 c] w fun e w' => ∃ v, e = .returned v ∧ w'.ownsRow w.heap.size 5 1 v 4 (bytesC (lowB a0 1 ++ [0, 0, 0])) ∧ Below w.heap.size w w' := by
  have x0 : IntKind.u8.wrap a0 = a0 := IntWalk.u8_in _ (by omega)
  have F0 := Lib.hid f0
  clear f0
  go_enter Try.func73, Try.ntmps73
  go_wp2_with fail
  refine (newRtGen_calls w).mono ?_
  rintro e w1 ⟨g, rfl, hg0, hg, hb1⟩
  have g0 := cells_one hb1 F0.out
  have p0 : w1.cell? ⟨g, 0, none⟩ = some (.int .u8 0) := (cell_of_row _ _ 0 _ _ (0, 0) hg).trans rfl
  have r0 : w1.frozen? ⟨g, 0, none⟩ = false := frozen_of_row _ _ 0 _ _ hg
  have HG := Lib.hid hg
  have BW := Lib.hid (hb1.setCell (p := ⟨g, 0, none⟩) hg0 (.int .u8 a0))
  clear hg hb1
  go_wp2_with fail
  refine (serRtGen_calls g a0 _ ha0 ?hb).mono ?_
  case hb => exact heap_setCell_same _ g 0 _ _ _ HG.out
  rintro e w9 ⟨v, rfl, ho, hb⟩
  have hsz := BW.out.size
  have HO := Lib.hid (own_lower ho hsz)
  have HB := Lib.hid (BW.out.trans (hb.mono hsz))
  clear ho hb
  go_wp2_with fail
  go_ret
  exact ⟨v, rfl, HO.out, HB.out⟩

end Go.Proofs.Ytbogknjgjbhagaa
