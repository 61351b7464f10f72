/- The thin package's bytes of each structure. -/
import Derived.Test.YtbogknjgjbhagaaStrE
import Derived.Deep.RegionHeld3
import Derived.IntWalk
namespace Go.Proofs.Ytbogknjgjbhagaa
open Go.RowKit
set_option linter.unusedSimpArgs false
set_option linter.unusedVariables false

set_option maxHeartbeats 1000000 in
set_option maxRecDepth 100000 in
theorem newIfInfomsg_calls (a0 : Int) (w : World) (h0 : 0 ≤ a0 ∧ a0 < 256) :
    Calls Try.prog 97 #[.int .i64 a0] w fun e w' => ∃ g, e = .returned (.pointer (some ⟨g, 0, none⟩)) ∧ w.heap.size ≤ g ∧ w'.heap[g]? = some (.cells #[.int .u8 a0, .int .u8 0, .int .u16 0, .int .i32 0, .int .u32 0, .int .u32 0] 147 (0, 0)) ∧ Below w.heap.size w w' := by
  have x0 : IntKind.u8.wrap a0 = a0 := IntWalk.u8_in _ (by omega)
  go_enter Try.func97, Try.ntmps97
  go_wp2_with fail
  go_ret
  exact ⟨_, rfl, Nat.le_refl _, heap_alloc_new w _, (Below.refl _ w).alloc (Nat.le_refl _) _⟩

set_option maxHeartbeats 4000000 in
set_option maxRecDepth 100000 in
theorem form0_calls (b o c : Nat) (a0 a1 a2 a3 a4 : Int) (w : World) (ha0 : 0 ≤ a0 ∧ a0 < 256) (ha1 : 0 ≤ a1 ∧ a1 < 65536) (ha2 : 0 ≤ a2 ∧ a2 < 2147483648) (ha3 : 0 ≤ a3 ∧ a3 < 4294967296) (ha4 : 0 ≤ a4 ∧ a4 < 4294967296) (f0 : w.cell? ⟨b, o, none⟩ = some (.int .u64 a0)) (f1 : w.cell? ⟨b, o + 1, none⟩ = some (.int .u64 a1)) (f2 : w.cell? ⟨b, o + 2, none⟩ = some (.int .u64 a2)) (f3 : w.cell? ⟨b, o + 3, none⟩ = some (.int .u64 a3)) (f4 : w.cell? ⟨b, o + 4, none⟩ = some (.int .u64 a4)) :
    Calls Try.prog 73 #[.int .i64 0, .slice (some ⟨b, o, none⟩) 5 c] w fun e w' => ∃ v, e = .returned v ∧ w'.ownsRow w.heap.size 5 1 v 16 (bytesC (lowB a0 1 ++ [0] ++ lowB a1 2 ++ lowB a2 4 ++ lowB a3 4 ++ lowB a4 4)) ∧ Below w.heap.size w w' := by
  have xa0 : IntKind.u8.wrap a0 = a0 := IntWalk.u8_in _ (by omega)
  have ya0 : IntKind.i64.wrap a0 = a0 := IntWalk.i64_in _ (by omega)
  have xa1 : IntKind.u16.wrap a1 = a1 := IntWalk.u16_in _ (by omega)
  have xa2 : IntKind.i32.wrap a2 = a2 := IntWalk.i32_in _ (by omega)
  have ya2 : IntKind.i64.wrap a2 = a2 := IntWalk.i64_in _ (by omega)
  have xa3 : IntKind.u32.wrap a3 = a3 := IntWalk.u32_in _ (by omega)
  have xa4 : IntKind.u32.wrap a4 = a4 := IntWalk.u32_in _ (by omega)
  have KS : Hid (∀ w' : World, Below w.heap.size w w' → w'.cell? ⟨b, o, none⟩ = some (.int .u64 a0) ∧ w'.cell? ⟨b, o + 1, none⟩ = some (.int .u64 a1) ∧ w'.cell? ⟨b, o + 2, none⟩ = some (.int .u64 a2) ∧ w'.cell? ⟨b, o + 3, none⟩ = some (.int .u64 a3) ∧ w'.cell? ⟨b, o + 4, none⟩ = some (.int .u64 a4) ∧ Below w.heap.size w w') := fun W hW => ⟨cells_one hW f0, cells_one hW f1, cells_one hW f2, cells_one hW f3, cells_one hW f4, hW⟩
  go_enter Try.func73, Try.ntmps73
  go_wp2_with fail
  refine (newIfInfomsg_calls a0 w (by omega)).mono ?_
  rintro e w1 ⟨g, rfl, hg0, hg, hb1⟩
  have hs1 := hb1.size
  have p2 : w1.cell? ⟨g, 2, none⟩ = some (.int .u16 0) := (cell_of_row _ _ 2 _ _ (0, 0) hg).trans rfl
  have r2 : w1.frozen? ⟨g, 2, none⟩ = false := frozen_of_row _ _ 2 _ _ hg
  have p3 : w1.cell? ⟨g, 3, none⟩ = some (.int .i32 0) := (cell_of_row _ _ 3 _ _ (0, 0) hg).trans rfl
  have r3 : w1.frozen? ⟨g, 3, none⟩ = false := frozen_of_row _ _ 3 _ _ hg
  have p4 : w1.cell? ⟨g, 4, none⟩ = some (.int .u32 0) := (cell_of_row _ _ 4 _ _ (0, 0) hg).trans rfl
  have r4 : w1.frozen? ⟨g, 4, none⟩ = false := frozen_of_row _ _ 4 _ _ hg
  have p5 : w1.cell? ⟨g, 5, none⟩ = some (.int .u32 0) := (cell_of_row _ _ 5 _ _ (0, 0) hg).trans rfl
  have r5 : w1.frozen? ⟨g, 5, none⟩ = false := frozen_of_row _ _ 5 _ _ hg
  have B1 := Lib.hid hb1
  have HG := Lib.hid hg
  have e0 := KS.out _ hb1
  obtain ⟨g0, g1, g2, g3, g4, -⟩ := e0
  clear hg
  go_wp2_with fail
  refine wp_region_held_drew (S := fun w' => w'.cell? ⟨b, o, none⟩ = some (.int .u64 a0) ∧ w'.cell? ⟨b, o + 1, none⟩ = some (.int .u64 a1) ∧ w'.cell? ⟨b, o + 2, none⟩ = some (.int .u64 a2) ∧ w'.cell? ⟨b, o + 3, none⟩ = some (.int .u64 a3) ∧ w'.cell? ⟨b, o + 4, none⟩ = some (.int .u64 a4) ∧ Below w.heap.size w w') (by kernel_rfl) (KS.out _ B1.out.drew) (fun hHeld => ?_)
  refine wpAnyH_take (i := 0) (oi := ?o0A) (v := ?v0A) ?h0A (by kernel_rfl) (by kernel_rfl) (by kernel_rfl) ?q0A (Or.inl ⟨?w0A, ?y0A⟩) (by assumption) ?r0A
  case h0A => (simp only [List.getElem?_toArray, List.getElem?_cons_succ, List.getElem?_cons_zero] <;> rfl)
  case q0A => exact fun _ _ _ h => h
  case w0A => rfl
  case y0A => (intro w hSw; (try dsimp only at hSw); go_simp; (try with_reducible rfl))
  try simp only [Act.put, List.setIfInBounds_toArray, List.set_cons_zero, List.set_cons_succ]
  refine wpAnyH_take (i := 1) (oi := ?o1A) (v := ?v1A) ?h1A (by kernel_rfl) (by kernel_rfl) (by kernel_rfl) ?q1A (Or.inl ⟨?w1A, ?y1A⟩) (by assumption) ?r1A
  case h1A => (simp only [List.getElem?_toArray, List.getElem?_cons_succ, List.getElem?_cons_zero] <;> rfl)
  case q1A => exact fun _ _ _ h => h
  case w1A => rfl
  case y1A => (intro w hSw; (try dsimp only at hSw); go_simp; (try with_reducible rfl))
  try simp only [Act.put, List.setIfInBounds_toArray, List.set_cons_zero, List.set_cons_succ]
  refine wpAnyH_take (i := 2) (oi := ?o2A) (v := ?v2A) ?h2A (by kernel_rfl) (by kernel_rfl) (by kernel_rfl) ?q2A (Or.inl ⟨?w2A, ?y2A⟩) (by assumption) ?r2A
  case h2A => (simp only [List.getElem?_toArray, List.getElem?_cons_succ, List.getElem?_cons_zero] <;> rfl)
  case q2A => exact fun _ _ _ h => h
  case w2A => rfl
  case y2A => (intro w hSw; (try dsimp only at hSw); go_simp; (try with_reducible rfl))
  try simp only [Act.put, List.setIfInBounds_toArray, List.set_cons_zero, List.set_cons_succ]
  refine wpAnyH_take (i := 3) (oi := ?o3A) (v := ?v3A) ?h3A (by kernel_rfl) (by kernel_rfl) (by kernel_rfl) ?q3A (Or.inl ⟨?w3A, ?y3A⟩) (by assumption) ?r3A
  case h3A => (simp only [List.getElem?_toArray, List.getElem?_cons_succ, List.getElem?_cons_zero] <;> rfl)
  case q3A => exact fun _ _ _ h => h
  case w3A => rfl
  case y3A => (intro w hSw; (try dsimp only at hSw); go_simp; (try with_reducible rfl))
  try simp only [Act.put, List.setIfInBounds_toArray, List.set_cons_zero, List.set_cons_succ]
  refine wpAnyH_take (i := 4) (oi := ?o4A) (v := ?v4A) ?h4A (by kernel_rfl) (by kernel_rfl) (by kernel_rfl) ?q4A (Or.inl ⟨?w4A, ?y4A⟩) (by assumption) ?r4A
  case h4A => (simp only [List.getElem?_toArray, List.getElem?_cons_succ, List.getElem?_cons_zero] <;> rfl)
  case q4A => exact fun _ _ _ h => h
  case w4A => rfl
  case y4A => (intro w hSw; (try dsimp only at hSw); go_simp; (try with_reducible rfl))
  try simp only [Act.put, List.setIfInBounds_toArray, List.set_cons_zero, List.set_cons_succ]
  refine wpAnyH_take (i := 5) (oi := ?o5A) (v := ?v5A) ?h5A (by kernel_rfl) (by kernel_rfl) (by kernel_rfl) ?q5A (Or.inl ⟨?w5A, ?y5A⟩) (by assumption) ?r5A
  case h5A => (simp only [List.getElem?_toArray, List.getElem?_cons_succ, List.getElem?_cons_zero] <;> rfl)
  case q5A => exact fun _ _ _ h => h
  case w5A => rfl
  case y5A => (intro w hSw; (try dsimp only at hSw); go_simp; (try with_reducible rfl))
  try simp only [Act.put, List.setIfInBounds_toArray, List.set_cons_zero, List.set_cons_succ]
  refine wpAnyH_take (i := 6) (oi := ?o6A) (v := ?v6A) ?h6A (by kernel_rfl) (by kernel_rfl) (by kernel_rfl) ?q6A (Or.inl ⟨?w6A, ?y6A⟩) (by assumption) ?r6A
  case h6A => (simp only [List.getElem?_toArray, List.getElem?_cons_succ, List.getElem?_cons_zero] <;> rfl)
  case q6A => exact fun _ _ _ h => h
  case w6A => rfl
  case y6A => (intro w hSw; (try dsimp only at hSw); go_simp; (try with_reducible rfl))
  try simp only [Act.put, List.setIfInBounds_toArray, List.set_cons_zero, List.set_cons_succ]
  refine wpAnyH_take (i := 7) (oi := ?o7A) (v := ?v7A) ?h7A (by kernel_rfl) (by kernel_rfl) (by kernel_rfl) ?q7A (Or.inl ⟨?w7A, ?y7A⟩) (by assumption) ?r7A
  case h7A => (simp only [List.getElem?_toArray, List.getElem?_cons_succ, List.getElem?_cons_zero] <;> rfl)
  case q7A => exact fun _ _ _ h => h
  case w7A => rfl
  case y7A => (intro w hSw; (try dsimp only at hSw); go_simp; (try with_reducible rfl))
  try simp only [Act.put, List.setIfInBounds_toArray, List.set_cons_zero, List.set_cons_succ]
  refine wpAnyH_take (i := 8) (oi := ?o8A) (v := ?v8A) ?h8A (by kernel_rfl) (by kernel_rfl) (by kernel_rfl) ?q8A (Or.inl ⟨?w8A, ?y8A⟩) (by assumption) ?r8A
  case h8A => (simp only [List.getElem?_toArray, List.getElem?_cons_succ, List.getElem?_cons_zero] <;> rfl)
  case q8A => exact fun _ _ _ h => h
  case w8A => rfl
  case y8A => (intro w hSw; (try dsimp only at hSw); go_simp; (try with_reducible rfl))
  try simp only [Act.put, List.setIfInBounds_toArray, List.set_cons_zero, List.set_cons_succ]
  refine wpAnyH_take (i := 9) (oi := ?o9A) (v := ?v9A) ?h9A (by kernel_rfl) (by kernel_rfl) (by kernel_rfl) ?q9A (Or.inl ⟨?w9A, ?y9A⟩) (by assumption) ?r9A
  case h9A => (simp only [List.getElem?_toArray, List.getElem?_cons_succ, List.getElem?_cons_zero] <;> rfl)
  case q9A => exact fun _ _ _ h => h
  case w9A => rfl
  case y9A => (intro w hSw; (try dsimp only at hSw); go_simp; (try with_reducible rfl))
  try simp only [Act.put, List.setIfInBounds_toArray, List.set_cons_zero, List.set_cons_succ]
  refine wpAnyH_take (i := 10) (oi := ?o10A) (v := ?v10A) ?h10A (by kernel_rfl) (by kernel_rfl) (by kernel_rfl) ?q10A (Or.inl ⟨?w10A, ?y10A⟩) (by assumption) ?r10A
  case h10A => (simp only [List.getElem?_toArray, List.getElem?_cons_succ, List.getElem?_cons_zero] <;> rfl)
  case q10A => exact fun _ _ _ h => h
  case w10A => rfl
  case y10A => (intro w hSw; (try dsimp only at hSw); go_simp; (try with_reducible rfl))
  try simp only [Act.put, List.setIfInBounds_toArray, List.set_cons_zero, List.set_cons_succ]
  refine wpAnyH_take (i := 11) (oi := ?o11A) (v := ?v11A) ?h11A (by kernel_rfl) (by kernel_rfl) (by kernel_rfl) ?q11A (Or.inl ⟨?w11A, ?y11A⟩) (by assumption) ?r11A
  case h11A => (simp only [List.getElem?_toArray, List.getElem?_cons_succ, List.getElem?_cons_zero] <;> rfl)
  case q11A => exact fun _ _ _ h => h
  case w11A => rfl
  case y11A => (intro w hSw; (try dsimp only at hSw); go_simp; (try with_reducible rfl))
  try simp only [Act.put, List.setIfInBounds_toArray, List.set_cons_zero, List.set_cons_succ]
  refine wpAnyH_take (i := 12) (oi := ?o12A) (v := ?v12A) ?h12A (by kernel_rfl) (by kernel_rfl) (by kernel_rfl) ?q12A (Or.inl ⟨?w12A, ?y12A⟩) (by assumption) ?r12A
  case h12A => (simp only [List.getElem?_toArray, List.getElem?_cons_succ, List.getElem?_cons_zero] <;> rfl)
  case q12A => exact fun _ _ _ h => h
  case w12A => rfl
  case y12A => (intro w hSw; (try dsimp only at hSw); go_simp; (try with_reducible rfl))
  try simp only [Act.put, List.setIfInBounds_toArray, List.set_cons_zero, List.set_cons_succ]
  refine wpAnyH_take (i := 13) (oi := ?o13A) (v := ?v13A) ?h13A (by kernel_rfl) (by kernel_rfl) (by kernel_rfl) ?q13A (Or.inl ⟨?w13A, ?y13A⟩) (by assumption) ?r13A
  case h13A => (simp only [List.getElem?_toArray, List.getElem?_cons_succ, List.getElem?_cons_zero] <;> rfl)
  case q13A => exact fun _ _ _ h => h
  case w13A => rfl
  case y13A => (intro w hSw; (try dsimp only at hSw); go_simp; (try with_reducible rfl))
  try simp only [Act.put, List.setIfInBounds_toArray, List.set_cons_zero, List.set_cons_succ]
  refine wpAnyH_take (i := 14) (oi := ?o14A) (v := ?v14A) ?h14A (by kernel_rfl) (by kernel_rfl) (by kernel_rfl) ?q14A (Or.inl ⟨?w14A, ?y14A⟩) (by assumption) ?r14A
  case h14A => (simp only [List.getElem?_toArray, List.getElem?_cons_succ, List.getElem?_cons_zero] <;> rfl)
  case q14A => exact fun _ _ _ h => h
  case w14A => rfl
  case y14A => (intro w hSw; (try dsimp only at hSw); go_simp; (try with_reducible rfl))
  try simp only [Act.put, List.setIfInBounds_toArray, List.set_cons_zero, List.set_cons_succ]
  refine wpAnyH_take (i := 15) (oi := ?o15A) (v := ?v15A) ?h15A (by kernel_rfl) (by kernel_rfl) (by kernel_rfl) ?q15A (Or.inl ⟨?w15A, ?y15A⟩) (by assumption) ?r15A
  case h15A => (simp only [List.getElem?_toArray, List.getElem?_cons_succ, List.getElem?_cons_zero] <;> rfl)
  case q15A => exact fun _ _ _ h => h
  case w15A => rfl
  case y15A => (intro w hSw; (try dsimp only at hSw); go_simp; (try with_reducible rfl))
  try simp only [Act.put, List.setIfInBounds_toArray, List.set_cons_zero, List.set_cons_succ]
  refine wpAnyH_take (i := 16) (oi := ?o16A) (v := ?v16A) ?h16A (by kernel_rfl) (by kernel_rfl) (by kernel_rfl) ?q16A (Or.inl ⟨?w16A, ?y16A⟩) (by assumption) ?r16A
  case h16A => (simp only [List.getElem?_toArray, List.getElem?_cons_succ, List.getElem?_cons_zero] <;> rfl)
  case q16A => exact fun _ _ _ h => h
  case w16A => rfl
  case y16A => (intro w hSw; (try dsimp only at hSw); go_simp; (try with_reducible rfl))
  try simp only [Act.put, List.setIfInBounds_toArray, List.set_cons_zero, List.set_cons_succ]
  refine wpAnyH_take (i := 17) (oi := ?o17A) (v := ?v17A) ?h17A (by kernel_rfl) (by kernel_rfl) (by kernel_rfl) ?q17A (Or.inl ⟨?w17A, ?y17A⟩) (by assumption) ?r17A
  case h17A => (simp only [List.getElem?_toArray, List.getElem?_cons_succ, List.getElem?_cons_zero] <;> rfl)
  case q17A => exact fun _ _ _ h => h
  case w17A => rfl
  case y17A => (intro w hSw; (try dsimp only at hSw); go_simp; (try with_reducible rfl))
  try simp only [Act.put, List.setIfInBounds_toArray, List.set_cons_zero, List.set_cons_succ]
  refine wpAnyH_take (i := 18) (oi := ?o18A) (v := ?v18A) ?h18A (by kernel_rfl) (by kernel_rfl) (by kernel_rfl) ?q18A (Or.inl ⟨?w18A, ?y18A⟩) (by assumption) ?r18A
  case h18A => (simp only [List.getElem?_toArray, List.getElem?_cons_succ, List.getElem?_cons_zero] <;> rfl)
  case q18A => exact fun _ _ _ h => h
  case w18A => rfl
  case y18A => (intro w hSw; (try dsimp only at hSw); go_simp; (try with_reducible rfl))
  try simp only [Act.put, List.setIfInBounds_toArray, List.set_cons_zero, List.set_cons_succ]
  refine wpAnyH_take (i := 19) (oi := ?o19A) (v := ?v19A) ?h19A (by kernel_rfl) (by kernel_rfl) (by kernel_rfl) ?q19A (Or.inl ⟨?w19A, ?y19A⟩) (by assumption) ?r19A
  case h19A => (simp only [List.getElem?_toArray, List.getElem?_cons_succ, List.getElem?_cons_zero] <;> rfl)
  case q19A => exact fun _ _ _ h => h
  case w19A => rfl
  case y19A => (intro w hSw; (try dsimp only at hSw); go_simp; (try with_reducible rfl))
  try simp only [Act.put, List.setIfInBounds_toArray, List.set_cons_zero, List.set_cons_succ]
  refine wpAnyH_take (i := 20) (oi := ?o20A) (v := ?v20A) ?h20A (by kernel_rfl) (by kernel_rfl) (by kernel_rfl) ?q20A (Or.inl ⟨?w20A, ?y20A⟩) (by assumption) ?r20A
  case h20A => (simp only [List.getElem?_toArray, List.getElem?_cons_succ, List.getElem?_cons_zero] <;> rfl)
  case q20A => exact fun _ _ _ h => h
  case w20A => rfl
  case y20A => (intro w hSw; (try dsimp only at hSw); go_simp; (try with_reducible rfl))
  try simp only [Act.put, List.setIfInBounds_toArray, List.set_cons_zero, List.set_cons_succ]
  refine wpAnyH_take (i := 21) (oi := ?o21A) (v := ?v21A) ?h21A (by kernel_rfl) (by kernel_rfl) (by kernel_rfl) ?q21A (Or.inl ⟨?w21A, ?y21A⟩) (by assumption) ?r21A
  case h21A => (simp only [List.getElem?_toArray, List.getElem?_cons_succ, List.getElem?_cons_zero] <;> rfl)
  case q21A => exact fun _ _ _ h => h
  case w21A => rfl
  case y21A => (intro w hSw; (try dsimp only at hSw); go_simp; (try with_reducible rfl))
  try simp only [Act.put, List.setIfInBounds_toArray, List.set_cons_zero, List.set_cons_succ]
  refine wpAnyH_take (i := 22) (oi := ?o22A) (v := ?v22A) ?h22A (by kernel_rfl) (by kernel_rfl) (by kernel_rfl) ?q22A (Or.inl ⟨?w22A, ?y22A⟩) (by assumption) ?r22A
  case h22A => (simp only [List.getElem?_toArray, List.getElem?_cons_succ, List.getElem?_cons_zero] <;> rfl)
  case q22A => exact fun _ _ _ h => h
  case w22A => rfl
  case y22A => (intro w hSw; (try dsimp only at hSw); go_simp; (try with_reducible rfl))
  try simp only [Act.put, List.setIfInBounds_toArray, List.set_cons_zero, List.set_cons_succ]
  refine wpAnyH_take (i := 23) (oi := ?o23A) (v := ?v23A) ?h23A (by kernel_rfl) (by kernel_rfl) (by kernel_rfl) ?q23A (Or.inl ⟨?w23A, ?y23A⟩) (by assumption) ?r23A
  case h23A => (simp only [List.getElem?_toArray, List.getElem?_cons_succ, List.getElem?_cons_zero] <;> rfl)
  case q23A => exact fun _ _ _ h => h
  case w23A => rfl
  case y23A => (intro w hSw; (try dsimp only at hSw); go_simp; (try with_reducible rfl))
  try simp only [Act.put, List.setIfInBounds_toArray, List.set_cons_zero, List.set_cons_succ]
  refine wpAnyH_ready (rs := [24]) (by kernel_rfl) (by simp) ?_
  refine AllReadyH.cons (o := ?o24A) ?h24A (fun K hK => ?_) AllReadyH.nil
  case h24A => (simp only [List.getElem?_toArray, List.getElem?_cons_succ, List.getElem?_cons_zero] <;> rfl)
  go_simp
  refine hK.out _ _ ?s24A (fun hHeld => ?_)
  case s24A => exact KS.out _ (by go_grown)
  clear hK K
  try simp only [Act.put, List.setIfInBounds_toArray, List.set_cons_zero, List.set_cons_succ]
  refine wpAnyH_take (i := 25) (oi := ?o25A) (v := ?v25A) ?h25A (by kernel_rfl) (by kernel_rfl) (by kernel_rfl) ?q25A (Or.inl ⟨?w25A, ?y25A⟩) (by assumption) ?r25A
  case h25A => (simp only [List.getElem?_toArray, List.getElem?_cons_succ, List.getElem?_cons_zero] <;> rfl)
  case q25A => exact fun _ _ _ h => h
  case w25A => rfl
  case y25A => (intro w hSw; (try dsimp only at hSw); go_simp; (try with_reducible rfl))
  try simp only [Act.put, List.setIfInBounds_toArray, List.set_cons_zero, List.set_cons_succ]
  refine wpAnyH_take (i := 26) (oi := ?o26A) (v := ?v26A) ?h26A (by kernel_rfl) (by kernel_rfl) (by kernel_rfl) ?q26A (Or.inl ⟨?w26A, ?y26A⟩) (by assumption) ?r26A
  case h26A => (simp only [List.getElem?_toArray, List.getElem?_cons_succ, List.getElem?_cons_zero] <;> rfl)
  case q26A => exact fun _ _ _ h => h
  case w26A => rfl
  case y26A => (intro w hSw; (try dsimp only at hSw); go_simp; (try with_reducible rfl))
  try simp only [Act.put, List.setIfInBounds_toArray, List.set_cons_zero, List.set_cons_succ]
  refine wpAnyH_take (i := 27) (oi := ?o27A) (v := ?v27A) ?h27A (by kernel_rfl) (by kernel_rfl) (by kernel_rfl) ?q27A (Or.inl ⟨?w27A, ?y27A⟩) (by assumption) ?r27A
  case h27A => (simp only [List.getElem?_toArray, List.getElem?_cons_succ, List.getElem?_cons_zero] <;> rfl)
  case q27A => exact fun _ _ _ h => h
  case w27A => rfl
  case y27A => (intro w hSw; (try dsimp only at hSw); go_simp; (try with_reducible rfl))
  try simp only [Act.put, List.setIfInBounds_toArray, List.set_cons_zero, List.set_cons_succ]
  refine wpAnyH_ready (rs := [28]) (by kernel_rfl) (by simp) ?_
  refine AllReadyH.cons (o := ?o28A) ?h28A (fun K hK => ?_) AllReadyH.nil
  case h28A => (simp only [List.getElem?_toArray, List.getElem?_cons_succ, List.getElem?_cons_zero] <;> rfl)
  go_simp
  refine hK.out _ _ ?s28A (fun hHeld => ?_)
  case s28A => exact KS.out _ (by go_grown)
  clear hK K
  try simp only [Act.put, List.setIfInBounds_toArray, List.set_cons_zero, List.set_cons_succ]
  refine wpAnyH_take (i := 29) (oi := ?o29A) (v := ?v29A) ?h29A (by kernel_rfl) (by kernel_rfl) (by kernel_rfl) ?q29A (Or.inl ⟨?w29A, ?y29A⟩) (by assumption) ?r29A
  case h29A => (simp only [List.getElem?_toArray, List.getElem?_cons_succ, List.getElem?_cons_zero] <;> rfl)
  case q29A => exact fun _ _ _ h => h
  case w29A => rfl
  case y29A => (intro w hSw; (try dsimp only at hSw); go_simp; (try with_reducible rfl))
  try simp only [Act.put, List.setIfInBounds_toArray, List.set_cons_zero, List.set_cons_succ]
  refine wpAnyH_take (i := 30) (oi := ?o30A) (v := ?v30A) ?h30A (by kernel_rfl) (by kernel_rfl) (by kernel_rfl) ?q30A (Or.inl ⟨?w30A, ?y30A⟩) (by assumption) ?r30A
  case h30A => (simp only [List.getElem?_toArray, List.getElem?_cons_succ, List.getElem?_cons_zero] <;> rfl)
  case q30A => exact fun _ _ _ h => h
  case w30A => rfl
  case y30A => (intro w hSw; (try dsimp only at hSw); go_simp; (try with_reducible rfl))
  try simp only [Act.put, List.setIfInBounds_toArray, List.set_cons_zero, List.set_cons_succ]
  refine wpAnyH_take (i := 31) (oi := ?o31A) (v := ?v31A) ?h31A (by kernel_rfl) (by kernel_rfl) (by kernel_rfl) ?q31A (Or.inl ⟨?w31A, ?y31A⟩) (by assumption) ?r31A
  case h31A => (simp only [List.getElem?_toArray, List.getElem?_cons_succ, List.getElem?_cons_zero] <;> rfl)
  case q31A => exact fun _ _ _ h => h
  case w31A => rfl
  case y31A => (intro w hSw; (try dsimp only at hSw); go_simp; (try with_reducible rfl))
  try simp only [Act.put, List.setIfInBounds_toArray, List.set_cons_zero, List.set_cons_succ]
  refine wpAnyH_ready (rs := [32]) (by kernel_rfl) (by simp) ?_
  refine AllReadyH.cons (o := ?o32A) ?h32A (fun K hK => ?_) AllReadyH.nil
  case h32A => (simp only [List.getElem?_toArray, List.getElem?_cons_succ, List.getElem?_cons_zero] <;> rfl)
  go_simp
  refine hK.out _ _ ?s32A (fun hHeld => ?_)
  case s32A => exact KS.out _ (by go_grown)
  clear hK K
  try simp only [Act.put, List.setIfInBounds_toArray, List.set_cons_zero, List.set_cons_succ]
  refine wpAnyH_take (i := 33) (oi := ?o33A) (v := ?v33A) ?h33A (by kernel_rfl) (by kernel_rfl) (by kernel_rfl) ?q33A (Or.inl ⟨?w33A, ?y33A⟩) (by assumption) ?r33A
  case h33A => (simp only [List.getElem?_toArray, List.getElem?_cons_succ, List.getElem?_cons_zero] <;> rfl)
  case q33A => exact fun _ _ _ h => h
  case w33A => rfl
  case y33A => (intro w hSw; (try dsimp only at hSw); go_simp; (try with_reducible rfl))
  try simp only [Act.put, List.setIfInBounds_toArray, List.set_cons_zero, List.set_cons_succ]
  refine wpAnyH_take (i := 34) (oi := ?o34A) (v := ?v34A) ?h34A (by kernel_rfl) (by kernel_rfl) (by kernel_rfl) ?q34A (Or.inl ⟨?w34A, ?y34A⟩) (by assumption) ?r34A
  case h34A => (simp only [List.getElem?_toArray, List.getElem?_cons_succ, List.getElem?_cons_zero] <;> rfl)
  case q34A => exact fun _ _ _ h => h
  case w34A => rfl
  case y34A => (intro w hSw; (try dsimp only at hSw); go_simp; (try with_reducible rfl))
  try simp only [Act.put, List.setIfInBounds_toArray, List.set_cons_zero, List.set_cons_succ]
  refine wpAnyH_take (i := 35) (oi := ?o35A) (v := ?v35A) ?h35A (by kernel_rfl) (by kernel_rfl) (by kernel_rfl) ?q35A (Or.inl ⟨?w35A, ?y35A⟩) (by assumption) ?r35A
  case h35A => (simp only [List.getElem?_toArray, List.getElem?_cons_succ, List.getElem?_cons_zero] <;> rfl)
  case q35A => exact fun _ _ _ h => h
  case w35A => rfl
  case y35A => (intro w hSw; (try dsimp only at hSw); go_simp; (try with_reducible rfl))
  try simp only [Act.put, List.setIfInBounds_toArray, List.set_cons_zero, List.set_cons_succ]
  refine wpAnyH_ready (rs := [36]) (by kernel_rfl) (by simp) ?_
  refine AllReadyH.cons (o := ?o36A) ?h36A (fun K hK => ?_) AllReadyH.nil
  case h36A => (simp only [List.getElem?_toArray, List.getElem?_cons_succ, List.getElem?_cons_zero] <;> rfl)
  go_simp
  refine hK.out _ _ ?s36A (fun hHeld => ?_)
  case s36A => exact KS.out _ (by go_grown)
  clear hK K
  try simp only [Act.put, List.setIfInBounds_toArray, List.set_cons_zero, List.set_cons_succ]
  refine wpAnyH_done (by kernel_rfl) ?_ _
  have BW := Lib.hid hHeld.2.2.2.2.2
  clear hHeld
  go_wp2_with fail
  refine (serIfInfomsg_calls g a0 a1 a2 a3 a4 _ ha0 ha1 ha2 ha3 ha4 ?hb).mono ?_
  case hb => exact heap_setCell_same _ g 5 _ _ _ (heap_setCell_same _ g 4 _ _ _ (heap_setCell_same _ g 3 _ _ _ (heap_setCell_same _ g 2 _ _ _ HG.out)))
  rintro e w9 ⟨v, rfl, ho, hb⟩
  have hsz := BW.out.size
  have HO := Lib.hid (own_lower ho hsz)
  have HB := Lib.hid (BW.out.trans (hb.mono hsz))
  clear ho hb
  go_wp2_with fail
  go_ret
  exact ⟨v, rfl, HO.out, HB.out⟩

set_option maxHeartbeats 1000000 in
set_option maxRecDepth 100000 in
theorem newIfAddrmsg_calls (a0 : Int) (w : World) (h0 : 0 ≤ a0 ∧ a0 < 256) :
    Calls Try.prog 99 #[.int .i64 a0] w fun e w' => ∃ g, e = .returned (.pointer (some ⟨g, 0, none⟩)) ∧ w.heap.size ≤ g ∧ w'.heap[g]? = some (.cells #[.int .u8 a0, .int .u8 0, .int .u8 0, .int .u8 0, .int .u32 0] 153 (0, 0)) ∧ Below w.heap.size w w' := by
  have x0 : IntKind.u8.wrap a0 = a0 := IntWalk.u8_in _ (by omega)
  go_enter Try.func99, Try.ntmps99
  go_wp2_with fail
  go_ret
  exact ⟨_, rfl, Nat.le_refl _, heap_alloc_new w _, (Below.refl _ w).alloc (Nat.le_refl _) _⟩

set_option maxHeartbeats 4000000 in
set_option maxRecDepth 100000 in
theorem form1_calls (b o c : Nat) (a0 a1 a2 a3 a4 : Int) (w : World) (ha0 : 0 ≤ a0 ∧ a0 < 256) (ha1 : 0 ≤ a1 ∧ a1 < 256) (ha2 : 0 ≤ a2 ∧ a2 < 256) (ha3 : 0 ≤ a3 ∧ a3 < 256) (ha4 : 0 ≤ a4 ∧ a4 < 4294967296) (f0 : w.cell? ⟨b, o, none⟩ = some (.int .u64 a0)) (f1 : w.cell? ⟨b, o + 1, none⟩ = some (.int .u64 a1)) (f2 : w.cell? ⟨b, o + 2, none⟩ = some (.int .u64 a2)) (f3 : w.cell? ⟨b, o + 3, none⟩ = some (.int .u64 a3)) (f4 : w.cell? ⟨b, o + 4, none⟩ = some (.int .u64 a4)) :
    Calls Try.prog 73 #[.int .i64 1, .slice (some ⟨b, o, none⟩) 5 c] w fun e w' => ∃ v, e = .returned v ∧ w'.ownsRow w.heap.size 5 1 v 8 (bytesC (lowB a0 1 ++ lowB a1 1 ++ lowB a2 1 ++ lowB a3 1 ++ lowB a4 4)) ∧ Below w.heap.size w w' := by
  have xa0 : IntKind.u8.wrap a0 = a0 := IntWalk.u8_in _ (by omega)
  have ya0 : IntKind.i64.wrap a0 = a0 := IntWalk.i64_in _ (by omega)
  have xa1 : IntKind.u8.wrap a1 = a1 := IntWalk.u8_in _ (by omega)
  have xa2 : IntKind.u8.wrap a2 = a2 := IntWalk.u8_in _ (by omega)
  have xa3 : IntKind.u8.wrap a3 = a3 := IntWalk.u8_in _ (by omega)
  have xa4 : IntKind.u32.wrap a4 = a4 := IntWalk.u32_in _ (by omega)
  have KS : Hid (∀ w' : World, Below w.heap.size w w' → w'.cell? ⟨b, o, none⟩ = some (.int .u64 a0) ∧ w'.cell? ⟨b, o + 1, none⟩ = some (.int .u64 a1) ∧ w'.cell? ⟨b, o + 2, none⟩ = some (.int .u64 a2) ∧ w'.cell? ⟨b, o + 3, none⟩ = some (.int .u64 a3) ∧ w'.cell? ⟨b, o + 4, none⟩ = some (.int .u64 a4) ∧ Below w.heap.size w w') := fun W hW => ⟨cells_one hW f0, cells_one hW f1, cells_one hW f2, cells_one hW f3, cells_one hW f4, hW⟩
  go_enter Try.func73, Try.ntmps73
  go_wp2_with fail
  refine (newIfAddrmsg_calls a0 w (by omega)).mono ?_
  rintro e w1 ⟨g, rfl, hg0, hg, hb1⟩
  have hs1 := hb1.size
  have p1 : w1.cell? ⟨g, 1, none⟩ = some (.int .u8 0) := (cell_of_row _ _ 1 _ _ (0, 0) hg).trans rfl
  have r1 : w1.frozen? ⟨g, 1, none⟩ = false := frozen_of_row _ _ 1 _ _ hg
  have p2 : w1.cell? ⟨g, 2, none⟩ = some (.int .u8 0) := (cell_of_row _ _ 2 _ _ (0, 0) hg).trans rfl
  have r2 : w1.frozen? ⟨g, 2, none⟩ = false := frozen_of_row _ _ 2 _ _ hg
  have p3 : w1.cell? ⟨g, 3, none⟩ = some (.int .u8 0) := (cell_of_row _ _ 3 _ _ (0, 0) hg).trans rfl
  have r3 : w1.frozen? ⟨g, 3, none⟩ = false := frozen_of_row _ _ 3 _ _ hg
  have p4 : w1.cell? ⟨g, 4, none⟩ = some (.int .u32 0) := (cell_of_row _ _ 4 _ _ (0, 0) hg).trans rfl
  have r4 : w1.frozen? ⟨g, 4, none⟩ = false := frozen_of_row _ _ 4 _ _ hg
  have B1 := Lib.hid hb1
  have HG := Lib.hid hg
  have e0 := KS.out _ hb1
  obtain ⟨g0, g1, g2, g3, g4, -⟩ := e0
  clear hg
  go_wp2_with fail
  refine wp_region_held_drew (S := fun w' => w'.cell? ⟨b, o, none⟩ = some (.int .u64 a0) ∧ w'.cell? ⟨b, o + 1, none⟩ = some (.int .u64 a1) ∧ w'.cell? ⟨b, o + 2, none⟩ = some (.int .u64 a2) ∧ w'.cell? ⟨b, o + 3, none⟩ = some (.int .u64 a3) ∧ w'.cell? ⟨b, o + 4, none⟩ = some (.int .u64 a4) ∧ Below w.heap.size w w') (by kernel_rfl) (KS.out _ B1.out.drew) (fun hHeld => ?_)
  refine wpAnyH_take (i := 0) (oi := ?o0A) (v := ?v0A) ?h0A (by kernel_rfl) (by kernel_rfl) (by kernel_rfl) ?q0A (Or.inl ⟨?w0A, ?y0A⟩) (by assumption) ?r0A
  case h0A => (simp only [List.getElem?_toArray, List.getElem?_cons_succ, List.getElem?_cons_zero] <;> rfl)
  case q0A => exact fun _ _ _ h => h
  case w0A => rfl
  case y0A => (intro w hSw; (try dsimp only at hSw); go_simp; (try with_reducible rfl))
  try simp only [Act.put, List.setIfInBounds_toArray, List.set_cons_zero, List.set_cons_succ]
  refine wpAnyH_take (i := 1) (oi := ?o1A) (v := ?v1A) ?h1A (by kernel_rfl) (by kernel_rfl) (by kernel_rfl) ?q1A (Or.inl ⟨?w1A, ?y1A⟩) (by assumption) ?r1A
  case h1A => (simp only [List.getElem?_toArray, List.getElem?_cons_succ, List.getElem?_cons_zero] <;> rfl)
  case q1A => exact fun _ _ _ h => h
  case w1A => rfl
  case y1A => (intro w hSw; (try dsimp only at hSw); go_simp; (try with_reducible rfl))
  try simp only [Act.put, List.setIfInBounds_toArray, List.set_cons_zero, List.set_cons_succ]
  refine wpAnyH_take (i := 2) (oi := ?o2A) (v := ?v2A) ?h2A (by kernel_rfl) (by kernel_rfl) (by kernel_rfl) ?q2A (Or.inl ⟨?w2A, ?y2A⟩) (by assumption) ?r2A
  case h2A => (simp only [List.getElem?_toArray, List.getElem?_cons_succ, List.getElem?_cons_zero] <;> rfl)
  case q2A => exact fun _ _ _ h => h
  case w2A => rfl
  case y2A => (intro w hSw; (try dsimp only at hSw); go_simp; (try with_reducible rfl))
  try simp only [Act.put, List.setIfInBounds_toArray, List.set_cons_zero, List.set_cons_succ]
  refine wpAnyH_take (i := 3) (oi := ?o3A) (v := ?v3A) ?h3A (by kernel_rfl) (by kernel_rfl) (by kernel_rfl) ?q3A (Or.inl ⟨?w3A, ?y3A⟩) (by assumption) ?r3A
  case h3A => (simp only [List.getElem?_toArray, List.getElem?_cons_succ, List.getElem?_cons_zero] <;> rfl)
  case q3A => exact fun _ _ _ h => h
  case w3A => rfl
  case y3A => (intro w hSw; (try dsimp only at hSw); go_simp; (try with_reducible rfl))
  try simp only [Act.put, List.setIfInBounds_toArray, List.set_cons_zero, List.set_cons_succ]
  refine wpAnyH_take (i := 4) (oi := ?o4A) (v := ?v4A) ?h4A (by kernel_rfl) (by kernel_rfl) (by kernel_rfl) ?q4A (Or.inl ⟨?w4A, ?y4A⟩) (by assumption) ?r4A
  case h4A => (simp only [List.getElem?_toArray, List.getElem?_cons_succ, List.getElem?_cons_zero] <;> rfl)
  case q4A => exact fun _ _ _ h => h
  case w4A => rfl
  case y4A => (intro w hSw; (try dsimp only at hSw); go_simp; (try with_reducible rfl))
  try simp only [Act.put, List.setIfInBounds_toArray, List.set_cons_zero, List.set_cons_succ]
  refine wpAnyH_take (i := 5) (oi := ?o5A) (v := ?v5A) ?h5A (by kernel_rfl) (by kernel_rfl) (by kernel_rfl) ?q5A (Or.inl ⟨?w5A, ?y5A⟩) (by assumption) ?r5A
  case h5A => (simp only [List.getElem?_toArray, List.getElem?_cons_succ, List.getElem?_cons_zero] <;> rfl)
  case q5A => exact fun _ _ _ h => h
  case w5A => rfl
  case y5A => (intro w hSw; (try dsimp only at hSw); go_simp; (try with_reducible rfl))
  try simp only [Act.put, List.setIfInBounds_toArray, List.set_cons_zero, List.set_cons_succ]
  refine wpAnyH_take (i := 6) (oi := ?o6A) (v := ?v6A) ?h6A (by kernel_rfl) (by kernel_rfl) (by kernel_rfl) ?q6A (Or.inl ⟨?w6A, ?y6A⟩) (by assumption) ?r6A
  case h6A => (simp only [List.getElem?_toArray, List.getElem?_cons_succ, List.getElem?_cons_zero] <;> rfl)
  case q6A => exact fun _ _ _ h => h
  case w6A => rfl
  case y6A => (intro w hSw; (try dsimp only at hSw); go_simp; (try with_reducible rfl))
  try simp only [Act.put, List.setIfInBounds_toArray, List.set_cons_zero, List.set_cons_succ]
  refine wpAnyH_take (i := 7) (oi := ?o7A) (v := ?v7A) ?h7A (by kernel_rfl) (by kernel_rfl) (by kernel_rfl) ?q7A (Or.inl ⟨?w7A, ?y7A⟩) (by assumption) ?r7A
  case h7A => (simp only [List.getElem?_toArray, List.getElem?_cons_succ, List.getElem?_cons_zero] <;> rfl)
  case q7A => exact fun _ _ _ h => h
  case w7A => rfl
  case y7A => (intro w hSw; (try dsimp only at hSw); go_simp; (try with_reducible rfl))
  try simp only [Act.put, List.setIfInBounds_toArray, List.set_cons_zero, List.set_cons_succ]
  refine wpAnyH_take (i := 8) (oi := ?o8A) (v := ?v8A) ?h8A (by kernel_rfl) (by kernel_rfl) (by kernel_rfl) ?q8A (Or.inl ⟨?w8A, ?y8A⟩) (by assumption) ?r8A
  case h8A => (simp only [List.getElem?_toArray, List.getElem?_cons_succ, List.getElem?_cons_zero] <;> rfl)
  case q8A => exact fun _ _ _ h => h
  case w8A => rfl
  case y8A => (intro w hSw; (try dsimp only at hSw); go_simp; (try with_reducible rfl))
  try simp only [Act.put, List.setIfInBounds_toArray, List.set_cons_zero, List.set_cons_succ]
  refine wpAnyH_take (i := 9) (oi := ?o9A) (v := ?v9A) ?h9A (by kernel_rfl) (by kernel_rfl) (by kernel_rfl) ?q9A (Or.inl ⟨?w9A, ?y9A⟩) (by assumption) ?r9A
  case h9A => (simp only [List.getElem?_toArray, List.getElem?_cons_succ, List.getElem?_cons_zero] <;> rfl)
  case q9A => exact fun _ _ _ h => h
  case w9A => rfl
  case y9A => (intro w hSw; (try dsimp only at hSw); go_simp; (try with_reducible rfl))
  try simp only [Act.put, List.setIfInBounds_toArray, List.set_cons_zero, List.set_cons_succ]
  refine wpAnyH_take (i := 10) (oi := ?o10A) (v := ?v10A) ?h10A (by kernel_rfl) (by kernel_rfl) (by kernel_rfl) ?q10A (Or.inl ⟨?w10A, ?y10A⟩) (by assumption) ?r10A
  case h10A => (simp only [List.getElem?_toArray, List.getElem?_cons_succ, List.getElem?_cons_zero] <;> rfl)
  case q10A => exact fun _ _ _ h => h
  case w10A => rfl
  case y10A => (intro w hSw; (try dsimp only at hSw); go_simp; (try with_reducible rfl))
  try simp only [Act.put, List.setIfInBounds_toArray, List.set_cons_zero, List.set_cons_succ]
  refine wpAnyH_take (i := 11) (oi := ?o11A) (v := ?v11A) ?h11A (by kernel_rfl) (by kernel_rfl) (by kernel_rfl) ?q11A (Or.inl ⟨?w11A, ?y11A⟩) (by assumption) ?r11A
  case h11A => (simp only [List.getElem?_toArray, List.getElem?_cons_succ, List.getElem?_cons_zero] <;> rfl)
  case q11A => exact fun _ _ _ h => h
  case w11A => rfl
  case y11A => (intro w hSw; (try dsimp only at hSw); go_simp; (try with_reducible rfl))
  try simp only [Act.put, List.setIfInBounds_toArray, List.set_cons_zero, List.set_cons_succ]
  refine wpAnyH_take (i := 12) (oi := ?o12A) (v := ?v12A) ?h12A (by kernel_rfl) (by kernel_rfl) (by kernel_rfl) ?q12A (Or.inl ⟨?w12A, ?y12A⟩) (by assumption) ?r12A
  case h12A => (simp only [List.getElem?_toArray, List.getElem?_cons_succ, List.getElem?_cons_zero] <;> rfl)
  case q12A => exact fun _ _ _ h => h
  case w12A => rfl
  case y12A => (intro w hSw; (try dsimp only at hSw); go_simp; (try with_reducible rfl))
  try simp only [Act.put, List.setIfInBounds_toArray, List.set_cons_zero, List.set_cons_succ]
  refine wpAnyH_take (i := 13) (oi := ?o13A) (v := ?v13A) ?h13A (by kernel_rfl) (by kernel_rfl) (by kernel_rfl) ?q13A (Or.inl ⟨?w13A, ?y13A⟩) (by assumption) ?r13A
  case h13A => (simp only [List.getElem?_toArray, List.getElem?_cons_succ, List.getElem?_cons_zero] <;> rfl)
  case q13A => exact fun _ _ _ h => h
  case w13A => rfl
  case y13A => (intro w hSw; (try dsimp only at hSw); go_simp; (try with_reducible rfl))
  try simp only [Act.put, List.setIfInBounds_toArray, List.set_cons_zero, List.set_cons_succ]
  refine wpAnyH_take (i := 14) (oi := ?o14A) (v := ?v14A) ?h14A (by kernel_rfl) (by kernel_rfl) (by kernel_rfl) ?q14A (Or.inl ⟨?w14A, ?y14A⟩) (by assumption) ?r14A
  case h14A => (simp only [List.getElem?_toArray, List.getElem?_cons_succ, List.getElem?_cons_zero] <;> rfl)
  case q14A => exact fun _ _ _ h => h
  case w14A => rfl
  case y14A => (intro w hSw; (try dsimp only at hSw); go_simp; (try with_reducible rfl))
  try simp only [Act.put, List.setIfInBounds_toArray, List.set_cons_zero, List.set_cons_succ]
  refine wpAnyH_take (i := 15) (oi := ?o15A) (v := ?v15A) ?h15A (by kernel_rfl) (by kernel_rfl) (by kernel_rfl) ?q15A (Or.inl ⟨?w15A, ?y15A⟩) (by assumption) ?r15A
  case h15A => (simp only [List.getElem?_toArray, List.getElem?_cons_succ, List.getElem?_cons_zero] <;> rfl)
  case q15A => exact fun _ _ _ h => h
  case w15A => rfl
  case y15A => (intro w hSw; (try dsimp only at hSw); go_simp; (try with_reducible rfl))
  try simp only [Act.put, List.setIfInBounds_toArray, List.set_cons_zero, List.set_cons_succ]
  refine wpAnyH_take (i := 16) (oi := ?o16A) (v := ?v16A) ?h16A (by kernel_rfl) (by kernel_rfl) (by kernel_rfl) ?q16A (Or.inl ⟨?w16A, ?y16A⟩) (by assumption) ?r16A
  case h16A => (simp only [List.getElem?_toArray, List.getElem?_cons_succ, List.getElem?_cons_zero] <;> rfl)
  case q16A => exact fun _ _ _ h => h
  case w16A => rfl
  case y16A => (intro w hSw; (try dsimp only at hSw); go_simp; (try with_reducible rfl))
  try simp only [Act.put, List.setIfInBounds_toArray, List.set_cons_zero, List.set_cons_succ]
  refine wpAnyH_take (i := 17) (oi := ?o17A) (v := ?v17A) ?h17A (by kernel_rfl) (by kernel_rfl) (by kernel_rfl) ?q17A (Or.inl ⟨?w17A, ?y17A⟩) (by assumption) ?r17A
  case h17A => (simp only [List.getElem?_toArray, List.getElem?_cons_succ, List.getElem?_cons_zero] <;> rfl)
  case q17A => exact fun _ _ _ h => h
  case w17A => rfl
  case y17A => (intro w hSw; (try dsimp only at hSw); go_simp; (try with_reducible rfl))
  try simp only [Act.put, List.setIfInBounds_toArray, List.set_cons_zero, List.set_cons_succ]
  refine wpAnyH_take (i := 18) (oi := ?o18A) (v := ?v18A) ?h18A (by kernel_rfl) (by kernel_rfl) (by kernel_rfl) ?q18A (Or.inl ⟨?w18A, ?y18A⟩) (by assumption) ?r18A
  case h18A => (simp only [List.getElem?_toArray, List.getElem?_cons_succ, List.getElem?_cons_zero] <;> rfl)
  case q18A => exact fun _ _ _ h => h
  case w18A => rfl
  case y18A => (intro w hSw; (try dsimp only at hSw); go_simp; (try with_reducible rfl))
  try simp only [Act.put, List.setIfInBounds_toArray, List.set_cons_zero, List.set_cons_succ]
  refine wpAnyH_take (i := 19) (oi := ?o19A) (v := ?v19A) ?h19A (by kernel_rfl) (by kernel_rfl) (by kernel_rfl) ?q19A (Or.inl ⟨?w19A, ?y19A⟩) (by assumption) ?r19A
  case h19A => (simp only [List.getElem?_toArray, List.getElem?_cons_succ, List.getElem?_cons_zero] <;> rfl)
  case q19A => exact fun _ _ _ h => h
  case w19A => rfl
  case y19A => (intro w hSw; (try dsimp only at hSw); go_simp; (try with_reducible rfl))
  try simp only [Act.put, List.setIfInBounds_toArray, List.set_cons_zero, List.set_cons_succ]
  refine wpAnyH_take (i := 20) (oi := ?o20A) (v := ?v20A) ?h20A (by kernel_rfl) (by kernel_rfl) (by kernel_rfl) ?q20A (Or.inl ⟨?w20A, ?y20A⟩) (by assumption) ?r20A
  case h20A => (simp only [List.getElem?_toArray, List.getElem?_cons_succ, List.getElem?_cons_zero] <;> rfl)
  case q20A => exact fun _ _ _ h => h
  case w20A => rfl
  case y20A => (intro w hSw; (try dsimp only at hSw); go_simp; (try with_reducible rfl))
  try simp only [Act.put, List.setIfInBounds_toArray, List.set_cons_zero, List.set_cons_succ]
  refine wpAnyH_take (i := 21) (oi := ?o21A) (v := ?v21A) ?h21A (by kernel_rfl) (by kernel_rfl) (by kernel_rfl) ?q21A (Or.inl ⟨?w21A, ?y21A⟩) (by assumption) ?r21A
  case h21A => (simp only [List.getElem?_toArray, List.getElem?_cons_succ, List.getElem?_cons_zero] <;> rfl)
  case q21A => exact fun _ _ _ h => h
  case w21A => rfl
  case y21A => (intro w hSw; (try dsimp only at hSw); go_simp; (try with_reducible rfl))
  try simp only [Act.put, List.setIfInBounds_toArray, List.set_cons_zero, List.set_cons_succ]
  refine wpAnyH_take (i := 22) (oi := ?o22A) (v := ?v22A) ?h22A (by kernel_rfl) (by kernel_rfl) (by kernel_rfl) ?q22A (Or.inl ⟨?w22A, ?y22A⟩) (by assumption) ?r22A
  case h22A => (simp only [List.getElem?_toArray, List.getElem?_cons_succ, List.getElem?_cons_zero] <;> rfl)
  case q22A => exact fun _ _ _ h => h
  case w22A => rfl
  case y22A => (intro w hSw; (try dsimp only at hSw); go_simp; (try with_reducible rfl))
  try simp only [Act.put, List.setIfInBounds_toArray, List.set_cons_zero, List.set_cons_succ]
  refine wpAnyH_ready (rs := [23]) (by kernel_rfl) (by simp) ?_
  refine AllReadyH.cons (o := ?o23A) ?h23A (fun K hK => ?_) AllReadyH.nil
  case h23A => (simp only [List.getElem?_toArray, List.getElem?_cons_succ, List.getElem?_cons_zero] <;> rfl)
  go_simp
  refine hK.out _ _ ?s23A (fun hHeld => ?_)
  case s23A => exact KS.out _ (by go_grown)
  clear hK K
  try simp only [Act.put, List.setIfInBounds_toArray, List.set_cons_zero, List.set_cons_succ]
  refine wpAnyH_take (i := 24) (oi := ?o24A) (v := ?v24A) ?h24A (by kernel_rfl) (by kernel_rfl) (by kernel_rfl) ?q24A (Or.inl ⟨?w24A, ?y24A⟩) (by assumption) ?r24A
  case h24A => (simp only [List.getElem?_toArray, List.getElem?_cons_succ, List.getElem?_cons_zero] <;> rfl)
  case q24A => exact fun _ _ _ h => h
  case w24A => rfl
  case y24A => (intro w hSw; (try dsimp only at hSw); go_simp; (try with_reducible rfl))
  try simp only [Act.put, List.setIfInBounds_toArray, List.set_cons_zero, List.set_cons_succ]
  refine wpAnyH_take (i := 25) (oi := ?o25A) (v := ?v25A) ?h25A (by kernel_rfl) (by kernel_rfl) (by kernel_rfl) ?q25A (Or.inl ⟨?w25A, ?y25A⟩) (by assumption) ?r25A
  case h25A => (simp only [List.getElem?_toArray, List.getElem?_cons_succ, List.getElem?_cons_zero] <;> rfl)
  case q25A => exact fun _ _ _ h => h
  case w25A => rfl
  case y25A => (intro w hSw; (try dsimp only at hSw); go_simp; (try with_reducible rfl))
  try simp only [Act.put, List.setIfInBounds_toArray, List.set_cons_zero, List.set_cons_succ]
  refine wpAnyH_take (i := 26) (oi := ?o26A) (v := ?v26A) ?h26A (by kernel_rfl) (by kernel_rfl) (by kernel_rfl) ?q26A (Or.inl ⟨?w26A, ?y26A⟩) (by assumption) ?r26A
  case h26A => (simp only [List.getElem?_toArray, List.getElem?_cons_succ, List.getElem?_cons_zero] <;> rfl)
  case q26A => exact fun _ _ _ h => h
  case w26A => rfl
  case y26A => (intro w hSw; (try dsimp only at hSw); go_simp; (try with_reducible rfl))
  try simp only [Act.put, List.setIfInBounds_toArray, List.set_cons_zero, List.set_cons_succ]
  refine wpAnyH_ready (rs := [27]) (by kernel_rfl) (by simp) ?_
  refine AllReadyH.cons (o := ?o27A) ?h27A (fun K hK => ?_) AllReadyH.nil
  case h27A => (simp only [List.getElem?_toArray, List.getElem?_cons_succ, List.getElem?_cons_zero] <;> rfl)
  go_simp
  refine hK.out _ _ ?s27A (fun hHeld => ?_)
  case s27A => exact KS.out _ (by go_grown)
  clear hK K
  try simp only [Act.put, List.setIfInBounds_toArray, List.set_cons_zero, List.set_cons_succ]
  refine wpAnyH_take (i := 28) (oi := ?o28A) (v := ?v28A) ?h28A (by kernel_rfl) (by kernel_rfl) (by kernel_rfl) ?q28A (Or.inl ⟨?w28A, ?y28A⟩) (by assumption) ?r28A
  case h28A => (simp only [List.getElem?_toArray, List.getElem?_cons_succ, List.getElem?_cons_zero] <;> rfl)
  case q28A => exact fun _ _ _ h => h
  case w28A => rfl
  case y28A => (intro w hSw; (try dsimp only at hSw); go_simp; (try with_reducible rfl))
  try simp only [Act.put, List.setIfInBounds_toArray, List.set_cons_zero, List.set_cons_succ]
  refine wpAnyH_take (i := 29) (oi := ?o29A) (v := ?v29A) ?h29A (by kernel_rfl) (by kernel_rfl) (by kernel_rfl) ?q29A (Or.inl ⟨?w29A, ?y29A⟩) (by assumption) ?r29A
  case h29A => (simp only [List.getElem?_toArray, List.getElem?_cons_succ, List.getElem?_cons_zero] <;> rfl)
  case q29A => exact fun _ _ _ h => h
  case w29A => rfl
  case y29A => (intro w hSw; (try dsimp only at hSw); go_simp; (try with_reducible rfl))
  try simp only [Act.put, List.setIfInBounds_toArray, List.set_cons_zero, List.set_cons_succ]
  refine wpAnyH_take (i := 30) (oi := ?o30A) (v := ?v30A) ?h30A (by kernel_rfl) (by kernel_rfl) (by kernel_rfl) ?q30A (Or.inl ⟨?w30A, ?y30A⟩) (by assumption) ?r30A
  case h30A => (simp only [List.getElem?_toArray, List.getElem?_cons_succ, List.getElem?_cons_zero] <;> rfl)
  case q30A => exact fun _ _ _ h => h
  case w30A => rfl
  case y30A => (intro w hSw; (try dsimp only at hSw); go_simp; (try with_reducible rfl))
  try simp only [Act.put, List.setIfInBounds_toArray, List.set_cons_zero, List.set_cons_succ]
  refine wpAnyH_ready (rs := [31]) (by kernel_rfl) (by simp) ?_
  refine AllReadyH.cons (o := ?o31A) ?h31A (fun K hK => ?_) AllReadyH.nil
  case h31A => (simp only [List.getElem?_toArray, List.getElem?_cons_succ, List.getElem?_cons_zero] <;> rfl)
  go_simp
  refine hK.out _ _ ?s31A (fun hHeld => ?_)
  case s31A => exact KS.out _ (by go_grown)
  clear hK K
  try simp only [Act.put, List.setIfInBounds_toArray, List.set_cons_zero, List.set_cons_succ]
  refine wpAnyH_take (i := 32) (oi := ?o32A) (v := ?v32A) ?h32A (by kernel_rfl) (by kernel_rfl) (by kernel_rfl) ?q32A (Or.inl ⟨?w32A, ?y32A⟩) (by assumption) ?r32A
  case h32A => (simp only [List.getElem?_toArray, List.getElem?_cons_succ, List.getElem?_cons_zero] <;> rfl)
  case q32A => exact fun _ _ _ h => h
  case w32A => rfl
  case y32A => (intro w hSw; (try dsimp only at hSw); go_simp; (try with_reducible rfl))
  try simp only [Act.put, List.setIfInBounds_toArray, List.set_cons_zero, List.set_cons_succ]
  refine wpAnyH_take (i := 33) (oi := ?o33A) (v := ?v33A) ?h33A (by kernel_rfl) (by kernel_rfl) (by kernel_rfl) ?q33A (Or.inl ⟨?w33A, ?y33A⟩) (by assumption) ?r33A
  case h33A => (simp only [List.getElem?_toArray, List.getElem?_cons_succ, List.getElem?_cons_zero] <;> rfl)
  case q33A => exact fun _ _ _ h => h
  case w33A => rfl
  case y33A => (intro w hSw; (try dsimp only at hSw); go_simp; (try with_reducible rfl))
  try simp only [Act.put, List.setIfInBounds_toArray, List.set_cons_zero, List.set_cons_succ]
  refine wpAnyH_take (i := 34) (oi := ?o34A) (v := ?v34A) ?h34A (by kernel_rfl) (by kernel_rfl) (by kernel_rfl) ?q34A (Or.inl ⟨?w34A, ?y34A⟩) (by assumption) ?r34A
  case h34A => (simp only [List.getElem?_toArray, List.getElem?_cons_succ, List.getElem?_cons_zero] <;> rfl)
  case q34A => exact fun _ _ _ h => h
  case w34A => rfl
  case y34A => (intro w hSw; (try dsimp only at hSw); go_simp; (try with_reducible rfl))
  try simp only [Act.put, List.setIfInBounds_toArray, List.set_cons_zero, List.set_cons_succ]
  refine wpAnyH_ready (rs := [35]) (by kernel_rfl) (by simp) ?_
  refine AllReadyH.cons (o := ?o35A) ?h35A (fun K hK => ?_) AllReadyH.nil
  case h35A => (simp only [List.getElem?_toArray, List.getElem?_cons_succ, List.getElem?_cons_zero] <;> rfl)
  go_simp
  refine hK.out _ _ ?s35A (fun hHeld => ?_)
  case s35A => exact KS.out _ (by go_grown)
  clear hK K
  try simp only [Act.put, List.setIfInBounds_toArray, List.set_cons_zero, List.set_cons_succ]
  refine wpAnyH_done (by kernel_rfl) ?_ _
  have BW := Lib.hid hHeld.2.2.2.2.2
  clear hHeld
  go_wp2_with fail
  refine (serIfAddrmsg_calls g a0 a1 a2 a3 a4 _ ha0 ha1 ha2 ha3 ha4 ?hb).mono ?_
  case hb => exact heap_setCell_same _ g 4 _ _ _ (heap_setCell_same _ g 3 _ _ _ (heap_setCell_same _ g 2 _ _ _ (heap_setCell_same _ g 1 _ _ _ HG.out)))
  rintro e w9 ⟨v, rfl, ho, hb⟩
  have hsz := BW.out.size
  have HO := Lib.hid (own_lower ho hsz)
  have HB := Lib.hid (BW.out.trans (hb.mono hsz))
  clear ho hb
  go_wp2_with fail
  go_ret
  exact ⟨v, rfl, HO.out, HB.out⟩

set_option maxHeartbeats 4000000 in
set_option maxRecDepth 100000 in
theorem form2_calls (b o c : Nat) (a0 a1 a2 a3 : Int) (w : World) (ha0 : 0 ≤ a0 ∧ a0 < 4294967296) (ha1 : 0 ≤ a1 ∧ a1 < 4294967296) (ha2 : 0 ≤ a2 ∧ a2 < 4294967296) (ha3 : 0 ≤ a3 ∧ a3 < 4294967296) (f0 : w.cell? ⟨b, o, none⟩ = some (.int .u64 a0)) (f1 : w.cell? ⟨b, o + 1, none⟩ = some (.int .u64 a1)) (f2 : w.cell? ⟨b, o + 2, none⟩ = some (.int .u64 a2)) (f3 : w.cell? ⟨b, o + 3, none⟩ = some (.int .u64 a3)) :
    Calls Try.prog 73 #[.int .i64 2, .slice (some ⟨b, o, none⟩) 4 c] w fun e w' => ∃ v, e = .returned v ∧ w'.ownsRow w.heap.size 5 1 v 16 (bytesC (lowB a0 4 ++ lowB a1 4 ++ lowB a2 4 ++ lowB a3 4)) ∧ Below w.heap.size w w' := by
  have xa0 : IntKind.u32.wrap a0 = a0 := IntWalk.u32_in _ (by omega)
  have xa1 : IntKind.u32.wrap a1 = a1 := IntWalk.u32_in _ (by omega)
  have xa2 : IntKind.u32.wrap a2 = a2 := IntWalk.u32_in _ (by omega)
  have xa3 : IntKind.u32.wrap a3 = a3 := IntWalk.u32_in _ (by omega)
  have KS : Hid (∀ w' : World, Below w.heap.size w w' → w'.cell? ⟨b, o, none⟩ = some (.int .u64 a0) ∧ w'.cell? ⟨b, o + 1, none⟩ = some (.int .u64 a1) ∧ w'.cell? ⟨b, o + 2, none⟩ = some (.int .u64 a2) ∧ w'.cell? ⟨b, o + 3, none⟩ = some (.int .u64 a3) ∧ Below w.heap.size w w') := fun W hW => ⟨cells_one hW f0, cells_one hW f1, cells_one hW f2, cells_one hW f3, hW⟩
  go_enter Try.func73, Try.ntmps73
  go_wp2_with fail
  refine wp_region_held_drew (S := fun w' => w'.cell? ⟨b, o, none⟩ = some (.int .u64 a0) ∧ w'.cell? ⟨b, o + 1, none⟩ = some (.int .u64 a1) ∧ w'.cell? ⟨b, o + 2, none⟩ = some (.int .u64 a2) ∧ w'.cell? ⟨b, o + 3, none⟩ = some (.int .u64 a3) ∧ Below w.heap.size w w') (by kernel_rfl) (KS.out _ (Below.refl _ _).drew) (fun hHeld => ?_)
  refine wpAnyH_take (i := 0) (oi := ?o0A) (v := ?v0A) ?h0A (by kernel_rfl) (by kernel_rfl) (by kernel_rfl) ?q0A (Or.inl ⟨?w0A, ?y0A⟩) (by assumption) ?r0A
  case h0A => (simp only [List.getElem?_toArray, List.getElem?_cons_succ, List.getElem?_cons_zero] <;> rfl)
  case q0A => exact fun _ _ _ h => h
  case w0A => rfl
  case y0A => (intro w hSw; (try dsimp only at hSw); go_simp; (try with_reducible rfl))
  try simp only [Act.put, List.setIfInBounds_toArray, List.set_cons_zero, List.set_cons_succ]
  refine wpAnyH_take (i := 1) (oi := ?o1A) (v := ?v1A) ?h1A (by kernel_rfl) (by kernel_rfl) (by kernel_rfl) ?q1A (Or.inl ⟨?w1A, ?y1A⟩) (by assumption) ?r1A
  case h1A => (simp only [List.getElem?_toArray, List.getElem?_cons_succ, List.getElem?_cons_zero] <;> rfl)
  case q1A => exact fun _ _ _ h => h
  case w1A => rfl
  case y1A => (intro w hSw; (try dsimp only at hSw); go_simp; (try with_reducible rfl))
  try simp only [Act.put, List.setIfInBounds_toArray, List.set_cons_zero, List.set_cons_succ]
  refine wpAnyH_take (i := 2) (oi := ?o2A) (v := ?v2A) ?h2A (by kernel_rfl) (by kernel_rfl) (by kernel_rfl) ?q2A (Or.inl ⟨?w2A, ?y2A⟩) (by assumption) ?r2A
  case h2A => (simp only [List.getElem?_toArray, List.getElem?_cons_succ, List.getElem?_cons_zero] <;> rfl)
  case q2A => exact fun _ _ _ h => h
  case w2A => rfl
  case y2A => (intro w hSw; (try dsimp only at hSw); go_simp; (try with_reducible rfl))
  try simp only [Act.put, List.setIfInBounds_toArray, List.set_cons_zero, List.set_cons_succ]
  refine wpAnyH_take (i := 3) (oi := ?o3A) (v := ?v3A) ?h3A (by kernel_rfl) (by kernel_rfl) (by kernel_rfl) ?q3A (Or.inl ⟨?w3A, ?y3A⟩) (by assumption) ?r3A
  case h3A => (simp only [List.getElem?_toArray, List.getElem?_cons_succ, List.getElem?_cons_zero] <;> rfl)
  case q3A => exact fun _ _ _ h => h
  case w3A => rfl
  case y3A => (intro w hSw; (try dsimp only at hSw); go_simp; (try with_reducible rfl))
  try simp only [Act.put, List.setIfInBounds_toArray, List.set_cons_zero, List.set_cons_succ]
  refine wpAnyH_take (i := 4) (oi := ?o4A) (v := ?v4A) ?h4A (by kernel_rfl) (by kernel_rfl) (by kernel_rfl) ?q4A (Or.inl ⟨?w4A, ?y4A⟩) (by assumption) ?r4A
  case h4A => (simp only [List.getElem?_toArray, List.getElem?_cons_succ, List.getElem?_cons_zero] <;> rfl)
  case q4A => exact fun _ _ _ h => h
  case w4A => rfl
  case y4A => (intro w hSw; (try dsimp only at hSw); go_simp; (try with_reducible rfl))
  try simp only [Act.put, List.setIfInBounds_toArray, List.set_cons_zero, List.set_cons_succ]
  refine wpAnyH_take (i := 5) (oi := ?o5A) (v := ?v5A) ?h5A (by kernel_rfl) (by kernel_rfl) (by kernel_rfl) ?q5A (Or.inl ⟨?w5A, ?y5A⟩) (by assumption) ?r5A
  case h5A => (simp only [List.getElem?_toArray, List.getElem?_cons_succ, List.getElem?_cons_zero] <;> rfl)
  case q5A => exact fun _ _ _ h => h
  case w5A => rfl
  case y5A => (intro w hSw; (try dsimp only at hSw); go_simp; (try with_reducible rfl))
  try simp only [Act.put, List.setIfInBounds_toArray, List.set_cons_zero, List.set_cons_succ]
  refine wpAnyH_take (i := 6) (oi := ?o6A) (v := ?v6A) ?h6A (by kernel_rfl) (by kernel_rfl) (by kernel_rfl) ?q6A (Or.inl ⟨?w6A, ?y6A⟩) (by assumption) ?r6A
  case h6A => (simp only [List.getElem?_toArray, List.getElem?_cons_succ, List.getElem?_cons_zero] <;> rfl)
  case q6A => exact fun _ _ _ h => h
  case w6A => rfl
  case y6A => (intro w hSw; (try dsimp only at hSw); go_simp; (try with_reducible rfl))
  try simp only [Act.put, List.setIfInBounds_toArray, List.set_cons_zero, List.set_cons_succ]
  refine wpAnyH_take (i := 7) (oi := ?o7A) (v := ?v7A) ?h7A (by kernel_rfl) (by kernel_rfl) (by kernel_rfl) ?q7A (Or.inl ⟨?w7A, ?y7A⟩) (by assumption) ?r7A
  case h7A => (simp only [List.getElem?_toArray, List.getElem?_cons_succ, List.getElem?_cons_zero] <;> rfl)
  case q7A => exact fun _ _ _ h => h
  case w7A => rfl
  case y7A => (intro w hSw; (try dsimp only at hSw); go_simp; (try with_reducible rfl))
  try simp only [Act.put, List.setIfInBounds_toArray, List.set_cons_zero, List.set_cons_succ]
  refine wpAnyH_take (i := 8) (oi := ?o8A) (v := ?v8A) ?h8A (by kernel_rfl) (by kernel_rfl) (by kernel_rfl) ?q8A (Or.inl ⟨?w8A, ?y8A⟩) (by assumption) ?r8A
  case h8A => (simp only [List.getElem?_toArray, List.getElem?_cons_succ, List.getElem?_cons_zero] <;> rfl)
  case q8A => exact fun _ _ _ h => h
  case w8A => rfl
  case y8A => (intro w hSw; (try dsimp only at hSw); go_simp; (try with_reducible rfl))
  try simp only [Act.put, List.setIfInBounds_toArray, List.set_cons_zero, List.set_cons_succ]
  refine wpAnyH_take (i := 9) (oi := ?o9A) (v := ?v9A) ?h9A (by kernel_rfl) (by kernel_rfl) (by kernel_rfl) ?q9A (Or.inl ⟨?w9A, ?y9A⟩) (by assumption) ?r9A
  case h9A => (simp only [List.getElem?_toArray, List.getElem?_cons_succ, List.getElem?_cons_zero] <;> rfl)
  case q9A => exact fun _ _ _ h => h
  case w9A => rfl
  case y9A => (intro w hSw; (try dsimp only at hSw); go_simp; (try with_reducible rfl))
  try simp only [Act.put, List.setIfInBounds_toArray, List.set_cons_zero, List.set_cons_succ]
  refine wpAnyH_take (i := 10) (oi := ?o10A) (v := ?v10A) ?h10A (by kernel_rfl) (by kernel_rfl) (by kernel_rfl) ?q10A (Or.inl ⟨?w10A, ?y10A⟩) (by assumption) ?r10A
  case h10A => (simp only [List.getElem?_toArray, List.getElem?_cons_succ, List.getElem?_cons_zero] <;> rfl)
  case q10A => exact fun _ _ _ h => h
  case w10A => rfl
  case y10A => (intro w hSw; (try dsimp only at hSw); go_simp; (try with_reducible rfl))
  try simp only [Act.put, List.setIfInBounds_toArray, List.set_cons_zero, List.set_cons_succ]
  refine wpAnyH_take (i := 11) (oi := ?o11A) (v := ?v11A) ?h11A (by kernel_rfl) (by kernel_rfl) (by kernel_rfl) ?q11A (Or.inl ⟨?w11A, ?y11A⟩) (by assumption) ?r11A
  case h11A => (simp only [List.getElem?_toArray, List.getElem?_cons_succ, List.getElem?_cons_zero] <;> rfl)
  case q11A => exact fun _ _ _ h => h
  case w11A => rfl
  case y11A => (intro w hSw; (try dsimp only at hSw); go_simp; (try with_reducible rfl))
  try simp only [Act.put, List.setIfInBounds_toArray, List.set_cons_zero, List.set_cons_succ]
  refine wpAnyH_take (i := 12) (oi := ?o12A) (v := ?v12A) ?h12A (by kernel_rfl) (by kernel_rfl) (by kernel_rfl) ?q12A (Or.inl ⟨?w12A, ?y12A⟩) (by assumption) ?r12A
  case h12A => (simp only [List.getElem?_toArray, List.getElem?_cons_succ, List.getElem?_cons_zero] <;> rfl)
  case q12A => exact fun _ _ _ h => h
  case w12A => rfl
  case y12A => (intro w hSw; (try dsimp only at hSw); go_simp; (try with_reducible rfl))
  try simp only [Act.put, List.setIfInBounds_toArray, List.set_cons_zero, List.set_cons_succ]
  refine wpAnyH_take (i := 13) (oi := ?o13A) (v := ?v13A) ?h13A (by kernel_rfl) (by kernel_rfl) (by kernel_rfl) ?q13A (Or.inl ⟨?w13A, ?y13A⟩) (by assumption) ?r13A
  case h13A => (simp only [List.getElem?_toArray, List.getElem?_cons_succ, List.getElem?_cons_zero] <;> rfl)
  case q13A => exact fun _ _ _ h => h
  case w13A => rfl
  case y13A => (intro w hSw; (try dsimp only at hSw); go_simp; (try with_reducible rfl))
  try simp only [Act.put, List.setIfInBounds_toArray, List.set_cons_zero, List.set_cons_succ]
  refine wpAnyH_take (i := 14) (oi := ?o14A) (v := ?v14A) ?h14A (by kernel_rfl) (by kernel_rfl) (by kernel_rfl) ?q14A (Or.inl ⟨?w14A, ?y14A⟩) (by assumption) ?r14A
  case h14A => (simp only [List.getElem?_toArray, List.getElem?_cons_succ, List.getElem?_cons_zero] <;> rfl)
  case q14A => exact fun _ _ _ h => h
  case w14A => rfl
  case y14A => (intro w hSw; (try dsimp only at hSw); go_simp; (try with_reducible rfl))
  try simp only [Act.put, List.setIfInBounds_toArray, List.set_cons_zero, List.set_cons_succ]
  refine wpAnyH_take (i := 15) (oi := ?o15A) (v := ?v15A) ?h15A (by kernel_rfl) (by kernel_rfl) (by kernel_rfl) ?q15A (Or.inl ⟨?w15A, ?y15A⟩) (by assumption) ?r15A
  case h15A => (simp only [List.getElem?_toArray, List.getElem?_cons_succ, List.getElem?_cons_zero] <;> rfl)
  case q15A => exact fun _ _ _ h => h
  case w15A => rfl
  case y15A => (intro w hSw; (try dsimp only at hSw); go_simp; (try with_reducible rfl))
  try simp only [Act.put, List.setIfInBounds_toArray, List.set_cons_zero, List.set_cons_succ]
  refine wpAnyH_take (i := 16) (oi := ?o16A) (v := ?v16A) ?h16A (by kernel_rfl) (by kernel_rfl) (by kernel_rfl) ?q16A (Or.inl ⟨?w16A, ?y16A⟩) (by assumption) ?r16A
  case h16A => (simp only [List.getElem?_toArray, List.getElem?_cons_succ, List.getElem?_cons_zero] <;> rfl)
  case q16A => exact fun _ _ _ h => h
  case w16A => rfl
  case y16A => (intro w hSw; (try dsimp only at hSw); go_simp; (try with_reducible rfl))
  try simp only [Act.put, List.setIfInBounds_toArray, List.set_cons_zero, List.set_cons_succ]
  refine wpAnyH_take (i := 17) (oi := ?o17A) (v := ?v17A) ?h17A (by kernel_rfl) (by kernel_rfl) (by kernel_rfl) ?q17A (Or.inl ⟨?w17A, ?y17A⟩) (by assumption) ?r17A
  case h17A => (simp only [List.getElem?_toArray, List.getElem?_cons_succ, List.getElem?_cons_zero] <;> rfl)
  case q17A => exact fun _ _ _ h => h
  case w17A => rfl
  case y17A => (intro w hSw; (try dsimp only at hSw); go_simp; (try with_reducible rfl))
  try simp only [Act.put, List.setIfInBounds_toArray, List.set_cons_zero, List.set_cons_succ]
  refine wpAnyH_ready (rs := [18]) (by kernel_rfl) (by simp) ?_
  refine AllReadyH.cons (o := ?o18A) ?h18A (fun K hK => ?_) AllReadyH.nil
  case h18A => (simp only [List.getElem?_toArray, List.getElem?_cons_succ, List.getElem?_cons_zero] <;> rfl)
  go_simp
  refine hK.out _ _ ?s18A (fun hHeld => ?_)
  case s18A => exact KS.out _ (by go_grown)
  clear hK K
  try simp only [Act.put, List.setIfInBounds_toArray, List.set_cons_zero, List.set_cons_succ]
  refine wpAnyH_take (i := 19) (oi := ?o19A) (v := ?v19A) ?h19A (by kernel_rfl) (by kernel_rfl) (by kernel_rfl) ?q19A (Or.inl ⟨?w19A, ?y19A⟩) (by assumption) ?r19A
  case h19A => (simp only [List.getElem?_toArray, List.getElem?_cons_succ, List.getElem?_cons_zero] <;> rfl)
  case q19A => exact fun _ _ _ h => h
  case w19A => rfl
  case y19A => (intro w hSw; (try dsimp only at hSw); go_simp; (try with_reducible rfl))
  try simp only [Act.put, List.setIfInBounds_toArray, List.set_cons_zero, List.set_cons_succ]
  refine wpAnyH_done (by kernel_rfl) ?_ _
  have BW := Lib.hid hHeld.2.2.2.2
  clear hHeld
  go_wp2_with fail
  refine (serIfaCacheInfo_calls _ a0 a1 a2 a3 _ ha0 ha1 ha2 ha3 ?hb).mono ?_
  case hb => exact heap_alloc_new w _
  rintro e w9 ⟨v, rfl, ho, hb⟩
  have hsz := BW.out.size
  have HO := Lib.hid (own_lower ho hsz)
  have HB := Lib.hid (BW.out.trans (hb.mono hsz))
  clear ho hb
  go_wp2_with fail
  go_ret
  exact ⟨v, rfl, HO.out, HB.out⟩

set_option maxHeartbeats 4000000 in
set_option maxRecDepth 100000 in
theorem form3_calls (b o c : Nat) (a0 a1 a2 a3 a4 a5 a6 a7 a8 : Int) (w : World) (ha0 : 0 ≤ a0 ∧ a0 < 256) (ha1 : 0 ≤ a1 ∧ a1 < 256) (ha2 : 0 ≤ a2 ∧ a2 < 256) (ha3 : 0 ≤ a3 ∧ a3 < 256) (ha4 : 0 ≤ a4 ∧ a4 < 256) (ha5 : 0 ≤ a5 ∧ a5 < 256) (ha6 : 0 ≤ a6 ∧ a6 < 256) (ha7 : 0 ≤ a7 ∧ a7 < 256) (ha8 : 0 ≤ a8 ∧ a8 < 4294967296) (f0 : w.cell? ⟨b, o, none⟩ = some (.int .u64 a0)) (f1 : w.cell? ⟨b, o + 1, none⟩ = some (.int .u64 a1)) (f2 : w.cell? ⟨b, o + 2, none⟩ = some (.int .u64 a2)) (f3 : w.cell? ⟨b, o + 3, none⟩ = some (.int .u64 a3)) (f4 : w.cell? ⟨b, o + 4, none⟩ = some (.int .u64 a4)) (f5 : w.cell? ⟨b, o + 5, none⟩ = some (.int .u64 a5)) (f6 : w.cell? ⟨b, o + 6, none⟩ = some (.int .u64 a6)) (f7 : w.cell? ⟨b, o + 7, none⟩ = some (.int .u64 a7)) (f8 : w.cell? ⟨b, o + 8, none⟩ = some (.int .u64 a8)) :
    Calls Try.prog 73 #[.int .i64 3, .slice (some ⟨b, o, none⟩) 9 c] w fun e w' => ∃ v, e = .returned v ∧ w'.ownsRow w.heap.size 5 1 v 12 (bytesC (lowB a0 1 ++ lowB a1 1 ++ lowB a2 1 ++ lowB a3 1 ++ lowB a4 1 ++ lowB a5 1 ++ lowB a6 1 ++ lowB a7 1 ++ lowB a8 4)) ∧ Below w.heap.size w w' := by
  have xa0 : IntKind.u8.wrap a0 = a0 := IntWalk.u8_in _ (by omega)
  have xa1 : IntKind.u8.wrap a1 = a1 := IntWalk.u8_in _ (by omega)
  have xa2 : IntKind.u8.wrap a2 = a2 := IntWalk.u8_in _ (by omega)
  have xa3 : IntKind.u8.wrap a3 = a3 := IntWalk.u8_in _ (by omega)
  have xa4 : IntKind.u8.wrap a4 = a4 := IntWalk.u8_in _ (by omega)
  have xa5 : IntKind.u8.wrap a5 = a5 := IntWalk.u8_in _ (by omega)
  have xa6 : IntKind.u8.wrap a6 = a6 := IntWalk.u8_in _ (by omega)
  have xa7 : IntKind.u8.wrap a7 = a7 := IntWalk.u8_in _ (by omega)
  have xa8 : IntKind.u32.wrap a8 = a8 := IntWalk.u32_in _ (by omega)
  have KS : Hid (∀ w' : World, Below w.heap.size w w' → w'.cell? ⟨b, o, none⟩ = some (.int .u64 a0) ∧ w'.cell? ⟨b, o + 1, none⟩ = some (.int .u64 a1) ∧ w'.cell? ⟨b, o + 2, none⟩ = some (.int .u64 a2) ∧ w'.cell? ⟨b, o + 3, none⟩ = some (.int .u64 a3) ∧ w'.cell? ⟨b, o + 4, none⟩ = some (.int .u64 a4) ∧ w'.cell? ⟨b, o + 5, none⟩ = some (.int .u64 a5) ∧ w'.cell? ⟨b, o + 6, none⟩ = some (.int .u64 a6) ∧ w'.cell? ⟨b, o + 7, none⟩ = some (.int .u64 a7) ∧ w'.cell? ⟨b, o + 8, none⟩ = some (.int .u64 a8) ∧ Below w.heap.size w w') := fun W hW => ⟨cells_one hW f0, cells_one hW f1, cells_one hW f2, cells_one hW f3, cells_one hW f4, cells_one hW f5, cells_one hW f6, cells_one hW f7, cells_one hW f8, hW⟩
  go_enter Try.func73, Try.ntmps73
  go_wp2_with fail
  refine wp_region_held_drew (S := fun w' => w'.cell? ⟨b, o, none⟩ = some (.int .u64 a0) ∧ w'.cell? ⟨b, o + 1, none⟩ = some (.int .u64 a1) ∧ w'.cell? ⟨b, o + 2, none⟩ = some (.int .u64 a2) ∧ w'.cell? ⟨b, o + 3, none⟩ = some (.int .u64 a3) ∧ w'.cell? ⟨b, o + 4, none⟩ = some (.int .u64 a4) ∧ w'.cell? ⟨b, o + 5, none⟩ = some (.int .u64 a5) ∧ w'.cell? ⟨b, o + 6, none⟩ = some (.int .u64 a6) ∧ w'.cell? ⟨b, o + 7, none⟩ = some (.int .u64 a7) ∧ w'.cell? ⟨b, o + 8, none⟩ = some (.int .u64 a8) ∧ Below w.heap.size w w') (by kernel_rfl) (KS.out _ (Below.refl _ _).drew) (fun hHeld => ?_)
  refine wpAnyH_take (i := 0) (oi := ?o0A) (v := ?v0A) ?h0A (by kernel_rfl) (by kernel_rfl) (by kernel_rfl) ?q0A (Or.inl ⟨?w0A, ?y0A⟩) (by assumption) ?r0A
  case h0A => (simp only [List.getElem?_toArray, List.getElem?_cons_succ, List.getElem?_cons_zero] <;> rfl)
  case q0A => exact fun _ _ _ h => h
  case w0A => rfl
  case y0A => (intro w hSw; (try dsimp only at hSw); go_simp; (try with_reducible rfl))
  try simp only [Act.put, List.setIfInBounds_toArray, List.set_cons_zero, List.set_cons_succ]
  refine wpAnyH_take (i := 1) (oi := ?o1A) (v := ?v1A) ?h1A (by kernel_rfl) (by kernel_rfl) (by kernel_rfl) ?q1A (Or.inl ⟨?w1A, ?y1A⟩) (by assumption) ?r1A
  case h1A => (simp only [List.getElem?_toArray, List.getElem?_cons_succ, List.getElem?_cons_zero] <;> rfl)
  case q1A => exact fun _ _ _ h => h
  case w1A => rfl
  case y1A => (intro w hSw; (try dsimp only at hSw); go_simp; (try with_reducible rfl))
  try simp only [Act.put, List.setIfInBounds_toArray, List.set_cons_zero, List.set_cons_succ]
  refine wpAnyH_take (i := 2) (oi := ?o2A) (v := ?v2A) ?h2A (by kernel_rfl) (by kernel_rfl) (by kernel_rfl) ?q2A (Or.inl ⟨?w2A, ?y2A⟩) (by assumption) ?r2A
  case h2A => (simp only [List.getElem?_toArray, List.getElem?_cons_succ, List.getElem?_cons_zero] <;> rfl)
  case q2A => exact fun _ _ _ h => h
  case w2A => rfl
  case y2A => (intro w hSw; (try dsimp only at hSw); go_simp; (try with_reducible rfl))
  try simp only [Act.put, List.setIfInBounds_toArray, List.set_cons_zero, List.set_cons_succ]
  refine wpAnyH_take (i := 3) (oi := ?o3A) (v := ?v3A) ?h3A (by kernel_rfl) (by kernel_rfl) (by kernel_rfl) ?q3A (Or.inl ⟨?w3A, ?y3A⟩) (by assumption) ?r3A
  case h3A => (simp only [List.getElem?_toArray, List.getElem?_cons_succ, List.getElem?_cons_zero] <;> rfl)
  case q3A => exact fun _ _ _ h => h
  case w3A => rfl
  case y3A => (intro w hSw; (try dsimp only at hSw); go_simp; (try with_reducible rfl))
  try simp only [Act.put, List.setIfInBounds_toArray, List.set_cons_zero, List.set_cons_succ]
  refine wpAnyH_take (i := 4) (oi := ?o4A) (v := ?v4A) ?h4A (by kernel_rfl) (by kernel_rfl) (by kernel_rfl) ?q4A (Or.inl ⟨?w4A, ?y4A⟩) (by assumption) ?r4A
  case h4A => (simp only [List.getElem?_toArray, List.getElem?_cons_succ, List.getElem?_cons_zero] <;> rfl)
  case q4A => exact fun _ _ _ h => h
  case w4A => rfl
  case y4A => (intro w hSw; (try dsimp only at hSw); go_simp; (try with_reducible rfl))
  try simp only [Act.put, List.setIfInBounds_toArray, List.set_cons_zero, List.set_cons_succ]
  refine wpAnyH_take (i := 5) (oi := ?o5A) (v := ?v5A) ?h5A (by kernel_rfl) (by kernel_rfl) (by kernel_rfl) ?q5A (Or.inl ⟨?w5A, ?y5A⟩) (by assumption) ?r5A
  case h5A => (simp only [List.getElem?_toArray, List.getElem?_cons_succ, List.getElem?_cons_zero] <;> rfl)
  case q5A => exact fun _ _ _ h => h
  case w5A => rfl
  case y5A => (intro w hSw; (try dsimp only at hSw); go_simp; (try with_reducible rfl))
  try simp only [Act.put, List.setIfInBounds_toArray, List.set_cons_zero, List.set_cons_succ]
  refine wpAnyH_take (i := 6) (oi := ?o6A) (v := ?v6A) ?h6A (by kernel_rfl) (by kernel_rfl) (by kernel_rfl) ?q6A (Or.inl ⟨?w6A, ?y6A⟩) (by assumption) ?r6A
  case h6A => (simp only [List.getElem?_toArray, List.getElem?_cons_succ, List.getElem?_cons_zero] <;> rfl)
  case q6A => exact fun _ _ _ h => h
  case w6A => rfl
  case y6A => (intro w hSw; (try dsimp only at hSw); go_simp; (try with_reducible rfl))
  try simp only [Act.put, List.setIfInBounds_toArray, List.set_cons_zero, List.set_cons_succ]
  refine wpAnyH_take (i := 7) (oi := ?o7A) (v := ?v7A) ?h7A (by kernel_rfl) (by kernel_rfl) (by kernel_rfl) ?q7A (Or.inl ⟨?w7A, ?y7A⟩) (by assumption) ?r7A
  case h7A => (simp only [List.getElem?_toArray, List.getElem?_cons_succ, List.getElem?_cons_zero] <;> rfl)
  case q7A => exact fun _ _ _ h => h
  case w7A => rfl
  case y7A => (intro w hSw; (try dsimp only at hSw); go_simp; (try with_reducible rfl))
  try simp only [Act.put, List.setIfInBounds_toArray, List.set_cons_zero, List.set_cons_succ]
  refine wpAnyH_take (i := 8) (oi := ?o8A) (v := ?v8A) ?h8A (by kernel_rfl) (by kernel_rfl) (by kernel_rfl) ?q8A (Or.inl ⟨?w8A, ?y8A⟩) (by assumption) ?r8A
  case h8A => (simp only [List.getElem?_toArray, List.getElem?_cons_succ, List.getElem?_cons_zero] <;> rfl)
  case q8A => exact fun _ _ _ h => h
  case w8A => rfl
  case y8A => (intro w hSw; (try dsimp only at hSw); go_simp; (try with_reducible rfl))
  try simp only [Act.put, List.setIfInBounds_toArray, List.set_cons_zero, List.set_cons_succ]
  refine wpAnyH_take (i := 9) (oi := ?o9A) (v := ?v9A) ?h9A (by kernel_rfl) (by kernel_rfl) (by kernel_rfl) ?q9A (Or.inl ⟨?w9A, ?y9A⟩) (by assumption) ?r9A
  case h9A => (simp only [List.getElem?_toArray, List.getElem?_cons_succ, List.getElem?_cons_zero] <;> rfl)
  case q9A => exact fun _ _ _ h => h
  case w9A => rfl
  case y9A => (intro w hSw; (try dsimp only at hSw); go_simp; (try with_reducible rfl))
  try simp only [Act.put, List.setIfInBounds_toArray, List.set_cons_zero, List.set_cons_succ]
  refine wpAnyH_take (i := 10) (oi := ?o10A) (v := ?v10A) ?h10A (by kernel_rfl) (by kernel_rfl) (by kernel_rfl) ?q10A (Or.inl ⟨?w10A, ?y10A⟩) (by assumption) ?r10A
  case h10A => (simp only [List.getElem?_toArray, List.getElem?_cons_succ, List.getElem?_cons_zero] <;> rfl)
  case q10A => exact fun _ _ _ h => h
  case w10A => rfl
  case y10A => (intro w hSw; (try dsimp only at hSw); go_simp; (try with_reducible rfl))
  try simp only [Act.put, List.setIfInBounds_toArray, List.set_cons_zero, List.set_cons_succ]
  refine wpAnyH_take (i := 11) (oi := ?o11A) (v := ?v11A) ?h11A (by kernel_rfl) (by kernel_rfl) (by kernel_rfl) ?q11A (Or.inl ⟨?w11A, ?y11A⟩) (by assumption) ?r11A
  case h11A => (simp only [List.getElem?_toArray, List.getElem?_cons_succ, List.getElem?_cons_zero] <;> rfl)
  case q11A => exact fun _ _ _ h => h
  case w11A => rfl
  case y11A => (intro w hSw; (try dsimp only at hSw); go_simp; (try with_reducible rfl))
  try simp only [Act.put, List.setIfInBounds_toArray, List.set_cons_zero, List.set_cons_succ]
  refine wpAnyH_take (i := 12) (oi := ?o12A) (v := ?v12A) ?h12A (by kernel_rfl) (by kernel_rfl) (by kernel_rfl) ?q12A (Or.inl ⟨?w12A, ?y12A⟩) (by assumption) ?r12A
  case h12A => (simp only [List.getElem?_toArray, List.getElem?_cons_succ, List.getElem?_cons_zero] <;> rfl)
  case q12A => exact fun _ _ _ h => h
  case w12A => rfl
  case y12A => (intro w hSw; (try dsimp only at hSw); go_simp; (try with_reducible rfl))
  try simp only [Act.put, List.setIfInBounds_toArray, List.set_cons_zero, List.set_cons_succ]
  refine wpAnyH_take (i := 13) (oi := ?o13A) (v := ?v13A) ?h13A (by kernel_rfl) (by kernel_rfl) (by kernel_rfl) ?q13A (Or.inl ⟨?w13A, ?y13A⟩) (by assumption) ?r13A
  case h13A => (simp only [List.getElem?_toArray, List.getElem?_cons_succ, List.getElem?_cons_zero] <;> rfl)
  case q13A => exact fun _ _ _ h => h
  case w13A => rfl
  case y13A => (intro w hSw; (try dsimp only at hSw); go_simp; (try with_reducible rfl))
  try simp only [Act.put, List.setIfInBounds_toArray, List.set_cons_zero, List.set_cons_succ]
  refine wpAnyH_take (i := 14) (oi := ?o14A) (v := ?v14A) ?h14A (by kernel_rfl) (by kernel_rfl) (by kernel_rfl) ?q14A (Or.inl ⟨?w14A, ?y14A⟩) (by assumption) ?r14A
  case h14A => (simp only [List.getElem?_toArray, List.getElem?_cons_succ, List.getElem?_cons_zero] <;> rfl)
  case q14A => exact fun _ _ _ h => h
  case w14A => rfl
  case y14A => (intro w hSw; (try dsimp only at hSw); go_simp; (try with_reducible rfl))
  try simp only [Act.put, List.setIfInBounds_toArray, List.set_cons_zero, List.set_cons_succ]
  refine wpAnyH_take (i := 15) (oi := ?o15A) (v := ?v15A) ?h15A (by kernel_rfl) (by kernel_rfl) (by kernel_rfl) ?q15A (Or.inl ⟨?w15A, ?y15A⟩) (by assumption) ?r15A
  case h15A => (simp only [List.getElem?_toArray, List.getElem?_cons_succ, List.getElem?_cons_zero] <;> rfl)
  case q15A => exact fun _ _ _ h => h
  case w15A => rfl
  case y15A => (intro w hSw; (try dsimp only at hSw); go_simp; (try with_reducible rfl))
  try simp only [Act.put, List.setIfInBounds_toArray, List.set_cons_zero, List.set_cons_succ]
  refine wpAnyH_take (i := 16) (oi := ?o16A) (v := ?v16A) ?h16A (by kernel_rfl) (by kernel_rfl) (by kernel_rfl) ?q16A (Or.inl ⟨?w16A, ?y16A⟩) (by assumption) ?r16A
  case h16A => (simp only [List.getElem?_toArray, List.getElem?_cons_succ, List.getElem?_cons_zero] <;> rfl)
  case q16A => exact fun _ _ _ h => h
  case w16A => rfl
  case y16A => (intro w hSw; (try dsimp only at hSw); go_simp; (try with_reducible rfl))
  try simp only [Act.put, List.setIfInBounds_toArray, List.set_cons_zero, List.set_cons_succ]
  refine wpAnyH_take (i := 17) (oi := ?o17A) (v := ?v17A) ?h17A (by kernel_rfl) (by kernel_rfl) (by kernel_rfl) ?q17A (Or.inl ⟨?w17A, ?y17A⟩) (by assumption) ?r17A
  case h17A => (simp only [List.getElem?_toArray, List.getElem?_cons_succ, List.getElem?_cons_zero] <;> rfl)
  case q17A => exact fun _ _ _ h => h
  case w17A => rfl
  case y17A => (intro w hSw; (try dsimp only at hSw); go_simp; (try with_reducible rfl))
  try simp only [Act.put, List.setIfInBounds_toArray, List.set_cons_zero, List.set_cons_succ]
  refine wpAnyH_take (i := 18) (oi := ?o18A) (v := ?v18A) ?h18A (by kernel_rfl) (by kernel_rfl) (by kernel_rfl) ?q18A (Or.inl ⟨?w18A, ?y18A⟩) (by assumption) ?r18A
  case h18A => (simp only [List.getElem?_toArray, List.getElem?_cons_succ, List.getElem?_cons_zero] <;> rfl)
  case q18A => exact fun _ _ _ h => h
  case w18A => rfl
  case y18A => (intro w hSw; (try dsimp only at hSw); go_simp; (try with_reducible rfl))
  try simp only [Act.put, List.setIfInBounds_toArray, List.set_cons_zero, List.set_cons_succ]
  refine wpAnyH_take (i := 19) (oi := ?o19A) (v := ?v19A) ?h19A (by kernel_rfl) (by kernel_rfl) (by kernel_rfl) ?q19A (Or.inl ⟨?w19A, ?y19A⟩) (by assumption) ?r19A
  case h19A => (simp only [List.getElem?_toArray, List.getElem?_cons_succ, List.getElem?_cons_zero] <;> rfl)
  case q19A => exact fun _ _ _ h => h
  case w19A => rfl
  case y19A => (intro w hSw; (try dsimp only at hSw); go_simp; (try with_reducible rfl))
  try simp only [Act.put, List.setIfInBounds_toArray, List.set_cons_zero, List.set_cons_succ]
  refine wpAnyH_take (i := 20) (oi := ?o20A) (v := ?v20A) ?h20A (by kernel_rfl) (by kernel_rfl) (by kernel_rfl) ?q20A (Or.inl ⟨?w20A, ?y20A⟩) (by assumption) ?r20A
  case h20A => (simp only [List.getElem?_toArray, List.getElem?_cons_succ, List.getElem?_cons_zero] <;> rfl)
  case q20A => exact fun _ _ _ h => h
  case w20A => rfl
  case y20A => (intro w hSw; (try dsimp only at hSw); go_simp; (try with_reducible rfl))
  try simp only [Act.put, List.setIfInBounds_toArray, List.set_cons_zero, List.set_cons_succ]
  refine wpAnyH_take (i := 21) (oi := ?o21A) (v := ?v21A) ?h21A (by kernel_rfl) (by kernel_rfl) (by kernel_rfl) ?q21A (Or.inl ⟨?w21A, ?y21A⟩) (by assumption) ?r21A
  case h21A => (simp only [List.getElem?_toArray, List.getElem?_cons_succ, List.getElem?_cons_zero] <;> rfl)
  case q21A => exact fun _ _ _ h => h
  case w21A => rfl
  case y21A => (intro w hSw; (try dsimp only at hSw); go_simp; (try with_reducible rfl))
  try simp only [Act.put, List.setIfInBounds_toArray, List.set_cons_zero, List.set_cons_succ]
  refine wpAnyH_take (i := 22) (oi := ?o22A) (v := ?v22A) ?h22A (by kernel_rfl) (by kernel_rfl) (by kernel_rfl) ?q22A (Or.inl ⟨?w22A, ?y22A⟩) (by assumption) ?r22A
  case h22A => (simp only [List.getElem?_toArray, List.getElem?_cons_succ, List.getElem?_cons_zero] <;> rfl)
  case q22A => exact fun _ _ _ h => h
  case w22A => rfl
  case y22A => (intro w hSw; (try dsimp only at hSw); go_simp; (try with_reducible rfl))
  try simp only [Act.put, List.setIfInBounds_toArray, List.set_cons_zero, List.set_cons_succ]
  refine wpAnyH_take (i := 23) (oi := ?o23A) (v := ?v23A) ?h23A (by kernel_rfl) (by kernel_rfl) (by kernel_rfl) ?q23A (Or.inl ⟨?w23A, ?y23A⟩) (by assumption) ?r23A
  case h23A => (simp only [List.getElem?_toArray, List.getElem?_cons_succ, List.getElem?_cons_zero] <;> rfl)
  case q23A => exact fun _ _ _ h => h
  case w23A => rfl
  case y23A => (intro w hSw; (try dsimp only at hSw); go_simp; (try with_reducible rfl))
  try simp only [Act.put, List.setIfInBounds_toArray, List.set_cons_zero, List.set_cons_succ]
  refine wpAnyH_take (i := 24) (oi := ?o24A) (v := ?v24A) ?h24A (by kernel_rfl) (by kernel_rfl) (by kernel_rfl) ?q24A (Or.inl ⟨?w24A, ?y24A⟩) (by assumption) ?r24A
  case h24A => (simp only [List.getElem?_toArray, List.getElem?_cons_succ, List.getElem?_cons_zero] <;> rfl)
  case q24A => exact fun _ _ _ h => h
  case w24A => rfl
  case y24A => (intro w hSw; (try dsimp only at hSw); go_simp; (try with_reducible rfl))
  try simp only [Act.put, List.setIfInBounds_toArray, List.set_cons_zero, List.set_cons_succ]
  refine wpAnyH_take (i := 25) (oi := ?o25A) (v := ?v25A) ?h25A (by kernel_rfl) (by kernel_rfl) (by kernel_rfl) ?q25A (Or.inl ⟨?w25A, ?y25A⟩) (by assumption) ?r25A
  case h25A => (simp only [List.getElem?_toArray, List.getElem?_cons_succ, List.getElem?_cons_zero] <;> rfl)
  case q25A => exact fun _ _ _ h => h
  case w25A => rfl
  case y25A => (intro w hSw; (try dsimp only at hSw); go_simp; (try with_reducible rfl))
  try simp only [Act.put, List.setIfInBounds_toArray, List.set_cons_zero, List.set_cons_succ]
  refine wpAnyH_take (i := 26) (oi := ?o26A) (v := ?v26A) ?h26A (by kernel_rfl) (by kernel_rfl) (by kernel_rfl) ?q26A (Or.inl ⟨?w26A, ?y26A⟩) (by assumption) ?r26A
  case h26A => (simp only [List.getElem?_toArray, List.getElem?_cons_succ, List.getElem?_cons_zero] <;> rfl)
  case q26A => exact fun _ _ _ h => h
  case w26A => rfl
  case y26A => (intro w hSw; (try dsimp only at hSw); go_simp; (try with_reducible rfl))
  try simp only [Act.put, List.setIfInBounds_toArray, List.set_cons_zero, List.set_cons_succ]
  refine wpAnyH_take (i := 27) (oi := ?o27A) (v := ?v27A) ?h27A (by kernel_rfl) (by kernel_rfl) (by kernel_rfl) ?q27A (Or.inl ⟨?w27A, ?y27A⟩) (by assumption) ?r27A
  case h27A => (simp only [List.getElem?_toArray, List.getElem?_cons_succ, List.getElem?_cons_zero] <;> rfl)
  case q27A => exact fun _ _ _ h => h
  case w27A => rfl
  case y27A => (intro w hSw; (try dsimp only at hSw); go_simp; (try with_reducible rfl))
  try simp only [Act.put, List.setIfInBounds_toArray, List.set_cons_zero, List.set_cons_succ]
  refine wpAnyH_take (i := 28) (oi := ?o28A) (v := ?v28A) ?h28A (by kernel_rfl) (by kernel_rfl) (by kernel_rfl) ?q28A (Or.inl ⟨?w28A, ?y28A⟩) (by assumption) ?r28A
  case h28A => (simp only [List.getElem?_toArray, List.getElem?_cons_succ, List.getElem?_cons_zero] <;> rfl)
  case q28A => exact fun _ _ _ h => h
  case w28A => rfl
  case y28A => (intro w hSw; (try dsimp only at hSw); go_simp; (try with_reducible rfl))
  try simp only [Act.put, List.setIfInBounds_toArray, List.set_cons_zero, List.set_cons_succ]
  refine wpAnyH_take (i := 29) (oi := ?o29A) (v := ?v29A) ?h29A (by kernel_rfl) (by kernel_rfl) (by kernel_rfl) ?q29A (Or.inl ⟨?w29A, ?y29A⟩) (by assumption) ?r29A
  case h29A => (simp only [List.getElem?_toArray, List.getElem?_cons_succ, List.getElem?_cons_zero] <;> rfl)
  case q29A => exact fun _ _ _ h => h
  case w29A => rfl
  case y29A => (intro w hSw; (try dsimp only at hSw); go_simp; (try with_reducible rfl))
  try simp only [Act.put, List.setIfInBounds_toArray, List.set_cons_zero, List.set_cons_succ]
  refine wpAnyH_take (i := 30) (oi := ?o30A) (v := ?v30A) ?h30A (by kernel_rfl) (by kernel_rfl) (by kernel_rfl) ?q30A (Or.inl ⟨?w30A, ?y30A⟩) (by assumption) ?r30A
  case h30A => (simp only [List.getElem?_toArray, List.getElem?_cons_succ, List.getElem?_cons_zero] <;> rfl)
  case q30A => exact fun _ _ _ h => h
  case w30A => rfl
  case y30A => (intro w hSw; (try dsimp only at hSw); go_simp; (try with_reducible rfl))
  try simp only [Act.put, List.setIfInBounds_toArray, List.set_cons_zero, List.set_cons_succ]
  refine wpAnyH_take (i := 31) (oi := ?o31A) (v := ?v31A) ?h31A (by kernel_rfl) (by kernel_rfl) (by kernel_rfl) ?q31A (Or.inl ⟨?w31A, ?y31A⟩) (by assumption) ?r31A
  case h31A => (simp only [List.getElem?_toArray, List.getElem?_cons_succ, List.getElem?_cons_zero] <;> rfl)
  case q31A => exact fun _ _ _ h => h
  case w31A => rfl
  case y31A => (intro w hSw; (try dsimp only at hSw); go_simp; (try with_reducible rfl))
  try simp only [Act.put, List.setIfInBounds_toArray, List.set_cons_zero, List.set_cons_succ]
  refine wpAnyH_take (i := 32) (oi := ?o32A) (v := ?v32A) ?h32A (by kernel_rfl) (by kernel_rfl) (by kernel_rfl) ?q32A (Or.inl ⟨?w32A, ?y32A⟩) (by assumption) ?r32A
  case h32A => (simp only [List.getElem?_toArray, List.getElem?_cons_succ, List.getElem?_cons_zero] <;> rfl)
  case q32A => exact fun _ _ _ h => h
  case w32A => rfl
  case y32A => (intro w hSw; (try dsimp only at hSw); go_simp; (try with_reducible rfl))
  try simp only [Act.put, List.setIfInBounds_toArray, List.set_cons_zero, List.set_cons_succ]
  refine wpAnyH_take (i := 33) (oi := ?o33A) (v := ?v33A) ?h33A (by kernel_rfl) (by kernel_rfl) (by kernel_rfl) ?q33A (Or.inl ⟨?w33A, ?y33A⟩) (by assumption) ?r33A
  case h33A => (simp only [List.getElem?_toArray, List.getElem?_cons_succ, List.getElem?_cons_zero] <;> rfl)
  case q33A => exact fun _ _ _ h => h
  case w33A => rfl
  case y33A => (intro w hSw; (try dsimp only at hSw); go_simp; (try with_reducible rfl))
  try simp only [Act.put, List.setIfInBounds_toArray, List.set_cons_zero, List.set_cons_succ]
  refine wpAnyH_take (i := 34) (oi := ?o34A) (v := ?v34A) ?h34A (by kernel_rfl) (by kernel_rfl) (by kernel_rfl) ?q34A (Or.inl ⟨?w34A, ?y34A⟩) (by assumption) ?r34A
  case h34A => (simp only [List.getElem?_toArray, List.getElem?_cons_succ, List.getElem?_cons_zero] <;> rfl)
  case q34A => exact fun _ _ _ h => h
  case w34A => rfl
  case y34A => (intro w hSw; (try dsimp only at hSw); go_simp; (try with_reducible rfl))
  try simp only [Act.put, List.setIfInBounds_toArray, List.set_cons_zero, List.set_cons_succ]
  refine wpAnyH_take (i := 35) (oi := ?o35A) (v := ?v35A) ?h35A (by kernel_rfl) (by kernel_rfl) (by kernel_rfl) ?q35A (Or.inl ⟨?w35A, ?y35A⟩) (by assumption) ?r35A
  case h35A => (simp only [List.getElem?_toArray, List.getElem?_cons_succ, List.getElem?_cons_zero] <;> rfl)
  case q35A => exact fun _ _ _ h => h
  case w35A => rfl
  case y35A => (intro w hSw; (try dsimp only at hSw); go_simp; (try with_reducible rfl))
  try simp only [Act.put, List.setIfInBounds_toArray, List.set_cons_zero, List.set_cons_succ]
  refine wpAnyH_take (i := 36) (oi := ?o36A) (v := ?v36A) ?h36A (by kernel_rfl) (by kernel_rfl) (by kernel_rfl) ?q36A (Or.inl ⟨?w36A, ?y36A⟩) (by assumption) ?r36A
  case h36A => (simp only [List.getElem?_toArray, List.getElem?_cons_succ, List.getElem?_cons_zero] <;> rfl)
  case q36A => exact fun _ _ _ h => h
  case w36A => rfl
  case y36A => (intro w hSw; (try dsimp only at hSw); go_simp; (try with_reducible rfl))
  try simp only [Act.put, List.setIfInBounds_toArray, List.set_cons_zero, List.set_cons_succ]
  refine wpAnyH_take (i := 37) (oi := ?o37A) (v := ?v37A) ?h37A (by kernel_rfl) (by kernel_rfl) (by kernel_rfl) ?q37A (Or.inl ⟨?w37A, ?y37A⟩) (by assumption) ?r37A
  case h37A => (simp only [List.getElem?_toArray, List.getElem?_cons_succ, List.getElem?_cons_zero] <;> rfl)
  case q37A => exact fun _ _ _ h => h
  case w37A => rfl
  case y37A => (intro w hSw; (try dsimp only at hSw); go_simp; (try with_reducible rfl))
  try simp only [Act.put, List.setIfInBounds_toArray, List.set_cons_zero, List.set_cons_succ]
  refine wpAnyH_ready (rs := [38]) (by kernel_rfl) (by simp) ?_
  refine AllReadyH.cons (o := ?o38A) ?h38A (fun K hK => ?_) AllReadyH.nil
  case h38A => (simp only [List.getElem?_toArray, List.getElem?_cons_succ, List.getElem?_cons_zero] <;> rfl)
  go_simp
  refine hK.out _ _ ?s38A (fun hHeld => ?_)
  case s38A => exact KS.out _ (by go_grown)
  clear hK K
  try simp only [Act.put, List.setIfInBounds_toArray, List.set_cons_zero, List.set_cons_succ]
  refine wpAnyH_take (i := 39) (oi := ?o39A) (v := ?v39A) ?h39A (by kernel_rfl) (by kernel_rfl) (by kernel_rfl) ?q39A (Or.inl ⟨?w39A, ?y39A⟩) (by assumption) ?r39A
  case h39A => (simp only [List.getElem?_toArray, List.getElem?_cons_succ, List.getElem?_cons_zero] <;> rfl)
  case q39A => exact fun _ _ _ h => h
  case w39A => rfl
  case y39A => (intro w hSw; (try dsimp only at hSw); go_simp; (try with_reducible rfl))
  try simp only [Act.put, List.setIfInBounds_toArray, List.set_cons_zero, List.set_cons_succ]
  refine wpAnyH_done (by kernel_rfl) ?_ _
  have BW := Lib.hid hHeld.2.2.2.2.2.2.2.2.2
  clear hHeld
  go_wp2_with fail
  refine (serRtMsg_calls _ a0 a1 a2 a3 a4 a5 a6 a7 a8 _ ha0 ha1 ha2 ha3 ha4 ha5 ha6 ha7 ha8 ?hb).mono ?_
  case hb => exact heap_alloc_new w _
  rintro e w9 ⟨v, rfl, ho, hb⟩
  have hsz := BW.out.size
  have HO := Lib.hid (own_lower ho hsz)
  have HB := Lib.hid (BW.out.trans (hb.mono hsz))
  clear ho hb
  go_wp2_with fail
  go_ret
  exact ⟨v, rfl, HO.out, HB.out⟩

set_option maxHeartbeats 4000000 in
set_option maxRecDepth 100000 in
theorem form5_calls (b o c : Nat) (a0 a1 : Int) (w : World) (ha0 : 0 ≤ a0 ∧ a0 < 256) (ha1 : 0 ≤ a1 ∧ a1 < 256) (f0 : w.cell? ⟨b, o, none⟩ = some (.int .u64 a0)) (f1 : w.cell? ⟨b, o + 1, none⟩ = some (.int .u64 a1)) :
    Calls Try.prog 73 #[.int .i64 5, .slice (some ⟨b, o, none⟩) 2 c] w fun e w' => ∃ v, e = .returned v ∧ w'.ownsRow w.heap.size 5 1 v 4 (bytesC (lowB a0 1 ++ lowB a1 1 ++ [0, 0])) ∧ Below w.heap.size w w' := by
  have xa0 : IntKind.u8.wrap a0 = a0 := IntWalk.u8_in _ (by omega)
  have xa1 : IntKind.u8.wrap a1 = a1 := IntWalk.u8_in _ (by omega)
  have KS : Hid (∀ w' : World, Below w.heap.size w w' → w'.cell? ⟨b, o, none⟩ = some (.int .u64 a0) ∧ w'.cell? ⟨b, o + 1, none⟩ = some (.int .u64 a1) ∧ Below w.heap.size w w') := fun W hW => ⟨cells_one hW f0, cells_one hW f1, hW⟩
  go_enter Try.func73, Try.ntmps73
  go_wp2_with fail
  refine wp_region_held_drew (S := fun w' => w'.cell? ⟨b, o, none⟩ = some (.int .u64 a0) ∧ w'.cell? ⟨b, o + 1, none⟩ = some (.int .u64 a1) ∧ Below w.heap.size w w') (by kernel_rfl) (KS.out _ (Below.refl _ _).drew) (fun hHeld => ?_)
  refine wpAnyH_take (i := 0) (oi := ?o0A) (v := ?v0A) ?h0A (by kernel_rfl) (by kernel_rfl) (by kernel_rfl) ?q0A (Or.inl ⟨?w0A, ?y0A⟩) (by assumption) ?r0A
  case h0A => (simp only [List.getElem?_toArray, List.getElem?_cons_succ, List.getElem?_cons_zero] <;> rfl)
  case q0A => exact fun _ _ _ h => h
  case w0A => rfl
  case y0A => (intro w hSw; (try dsimp only at hSw); go_simp; (try with_reducible rfl))
  try simp only [Act.put, List.setIfInBounds_toArray, List.set_cons_zero, List.set_cons_succ]
  refine wpAnyH_take (i := 1) (oi := ?o1A) (v := ?v1A) ?h1A (by kernel_rfl) (by kernel_rfl) (by kernel_rfl) ?q1A (Or.inl ⟨?w1A, ?y1A⟩) (by assumption) ?r1A
  case h1A => (simp only [List.getElem?_toArray, List.getElem?_cons_succ, List.getElem?_cons_zero] <;> rfl)
  case q1A => exact fun _ _ _ h => h
  case w1A => rfl
  case y1A => (intro w hSw; (try dsimp only at hSw); go_simp; (try with_reducible rfl))
  try simp only [Act.put, List.setIfInBounds_toArray, List.set_cons_zero, List.set_cons_succ]
  refine wpAnyH_take (i := 2) (oi := ?o2A) (v := ?v2A) ?h2A (by kernel_rfl) (by kernel_rfl) (by kernel_rfl) ?q2A (Or.inl ⟨?w2A, ?y2A⟩) (by assumption) ?r2A
  case h2A => (simp only [List.getElem?_toArray, List.getElem?_cons_succ, List.getElem?_cons_zero] <;> rfl)
  case q2A => exact fun _ _ _ h => h
  case w2A => rfl
  case y2A => (intro w hSw; (try dsimp only at hSw); go_simp; (try with_reducible rfl))
  try simp only [Act.put, List.setIfInBounds_toArray, List.set_cons_zero, List.set_cons_succ]
  refine wpAnyH_take (i := 3) (oi := ?o3A) (v := ?v3A) ?h3A (by kernel_rfl) (by kernel_rfl) (by kernel_rfl) ?q3A (Or.inl ⟨?w3A, ?y3A⟩) (by assumption) ?r3A
  case h3A => (simp only [List.getElem?_toArray, List.getElem?_cons_succ, List.getElem?_cons_zero] <;> rfl)
  case q3A => exact fun _ _ _ h => h
  case w3A => rfl
  case y3A => (intro w hSw; (try dsimp only at hSw); go_simp; (try with_reducible rfl))
  try simp only [Act.put, List.setIfInBounds_toArray, List.set_cons_zero, List.set_cons_succ]
  refine wpAnyH_take (i := 4) (oi := ?o4A) (v := ?v4A) ?h4A (by kernel_rfl) (by kernel_rfl) (by kernel_rfl) ?q4A (Or.inl ⟨?w4A, ?y4A⟩) (by assumption) ?r4A
  case h4A => (simp only [List.getElem?_toArray, List.getElem?_cons_succ, List.getElem?_cons_zero] <;> rfl)
  case q4A => exact fun _ _ _ h => h
  case w4A => rfl
  case y4A => (intro w hSw; (try dsimp only at hSw); go_simp; (try with_reducible rfl))
  try simp only [Act.put, List.setIfInBounds_toArray, List.set_cons_zero, List.set_cons_succ]
  refine wpAnyH_take (i := 5) (oi := ?o5A) (v := ?v5A) ?h5A (by kernel_rfl) (by kernel_rfl) (by kernel_rfl) ?q5A (Or.inl ⟨?w5A, ?y5A⟩) (by assumption) ?r5A
  case h5A => (simp only [List.getElem?_toArray, List.getElem?_cons_succ, List.getElem?_cons_zero] <;> rfl)
  case q5A => exact fun _ _ _ h => h
  case w5A => rfl
  case y5A => (intro w hSw; (try dsimp only at hSw); go_simp; (try with_reducible rfl))
  try simp only [Act.put, List.setIfInBounds_toArray, List.set_cons_zero, List.set_cons_succ]
  refine wpAnyH_take (i := 6) (oi := ?o6A) (v := ?v6A) ?h6A (by kernel_rfl) (by kernel_rfl) (by kernel_rfl) ?q6A (Or.inl ⟨?w6A, ?y6A⟩) (by assumption) ?r6A
  case h6A => (simp only [List.getElem?_toArray, List.getElem?_cons_succ, List.getElem?_cons_zero] <;> rfl)
  case q6A => exact fun _ _ _ h => h
  case w6A => rfl
  case y6A => (intro w hSw; (try dsimp only at hSw); go_simp; (try with_reducible rfl))
  try simp only [Act.put, List.setIfInBounds_toArray, List.set_cons_zero, List.set_cons_succ]
  refine wpAnyH_take (i := 7) (oi := ?o7A) (v := ?v7A) ?h7A (by kernel_rfl) (by kernel_rfl) (by kernel_rfl) ?q7A (Or.inl ⟨?w7A, ?y7A⟩) (by assumption) ?r7A
  case h7A => (simp only [List.getElem?_toArray, List.getElem?_cons_succ, List.getElem?_cons_zero] <;> rfl)
  case q7A => exact fun _ _ _ h => h
  case w7A => rfl
  case y7A => (intro w hSw; (try dsimp only at hSw); go_simp; (try with_reducible rfl))
  try simp only [Act.put, List.setIfInBounds_toArray, List.set_cons_zero, List.set_cons_succ]
  refine wpAnyH_take (i := 8) (oi := ?o8A) (v := ?v8A) ?h8A (by kernel_rfl) (by kernel_rfl) (by kernel_rfl) ?q8A (Or.inl ⟨?w8A, ?y8A⟩) (by assumption) ?r8A
  case h8A => (simp only [List.getElem?_toArray, List.getElem?_cons_succ, List.getElem?_cons_zero] <;> rfl)
  case q8A => exact fun _ _ _ h => h
  case w8A => rfl
  case y8A => (intro w hSw; (try dsimp only at hSw); go_simp; (try with_reducible rfl))
  try simp only [Act.put, List.setIfInBounds_toArray, List.set_cons_zero, List.set_cons_succ]
  refine wpAnyH_ready (rs := [9]) (by kernel_rfl) (by simp) ?_
  refine AllReadyH.cons (o := ?o9A) ?h9A (fun K hK => ?_) AllReadyH.nil
  case h9A => (simp only [List.getElem?_toArray, List.getElem?_cons_succ, List.getElem?_cons_zero] <;> rfl)
  go_simp
  refine hK.out _ _ ?s9A (fun hHeld => ?_)
  case s9A => exact KS.out _ (by go_grown)
  clear hK K
  try simp only [Act.put, List.setIfInBounds_toArray, List.set_cons_zero, List.set_cons_succ]
  refine wpAnyH_take (i := 10) (oi := ?o10A) (v := ?v10A) ?h10A (by kernel_rfl) (by kernel_rfl) (by kernel_rfl) ?q10A (Or.inl ⟨?w10A, ?y10A⟩) (by assumption) ?r10A
  case h10A => (simp only [List.getElem?_toArray, List.getElem?_cons_succ, List.getElem?_cons_zero] <;> rfl)
  case q10A => exact fun _ _ _ h => h
  case w10A => rfl
  case y10A => (intro w hSw; (try dsimp only at hSw); go_simp; (try with_reducible rfl))
  try simp only [Act.put, List.setIfInBounds_toArray, List.set_cons_zero, List.set_cons_succ]
  refine wpAnyH_done (by kernel_rfl) ?_ _
  have BW := Lib.hid hHeld.2.2
  clear hHeld
  go_wp2_with fail
  refine (serGenlmsg_calls _ a0 a1 _ ha0 ha1 ?hb).mono ?_
  case hb => exact heap_alloc_new w _
  rintro e w9 ⟨v, rfl, ho, hb⟩
  have hsz := BW.out.size
  have HO := Lib.hid (own_lower ho hsz)
  have HB := Lib.hid (BW.out.trans (hb.mono hsz))
  clear ho hb
  go_wp2_with fail
  go_ret
  exact ⟨v, rfl, HO.out, HB.out⟩

set_option maxHeartbeats 4000000 in
set_option maxRecDepth 100000 in
theorem form7_calls (b o c : Nat) (a0 a1 : Int) (w : World) (ha0 : 0 ≤ a0 ∧ a0 < 65536) (ha1 : 0 ≤ a1 ∧ a1 < 65536) (f0 : w.cell? ⟨b, o, none⟩ = some (.int .u64 a0)) (f1 : w.cell? ⟨b, o + 1, none⟩ = some (.int .u64 a1)) :
    Calls Try.prog 73 #[.int .i64 7, .slice (some ⟨b, o, none⟩) 2 c] w fun e w' => ∃ v, e = .returned v ∧ w'.ownsRow w.heap.size 5 1 v 4 (bytesC (lowB a0 2 ++ lowB a1 2)) ∧ Below w.heap.size w w' := by
  have xa0 : IntKind.u16.wrap a0 = a0 := IntWalk.u16_in _ (by omega)
  have xa1 : IntKind.u16.wrap a1 = a1 := IntWalk.u16_in _ (by omega)
  have KS : Hid (∀ w' : World, Below w.heap.size w w' → w'.cell? ⟨b, o, none⟩ = some (.int .u64 a0) ∧ w'.cell? ⟨b, o + 1, none⟩ = some (.int .u64 a1) ∧ Below w.heap.size w w') := fun W hW => ⟨cells_one hW f0, cells_one hW f1, hW⟩
  go_enter Try.func73, Try.ntmps73
  go_wp2_with fail
  refine wp_region_held_drew (S := fun w' => w'.cell? ⟨b, o, none⟩ = some (.int .u64 a0) ∧ w'.cell? ⟨b, o + 1, none⟩ = some (.int .u64 a1) ∧ Below w.heap.size w w') (by kernel_rfl) (KS.out _ (Below.refl _ _).drew) (fun hHeld => ?_)
  refine wpAnyH_take (i := 0) (oi := ?o0A) (v := ?v0A) ?h0A (by kernel_rfl) (by kernel_rfl) (by kernel_rfl) ?q0A (Or.inl ⟨?w0A, ?y0A⟩) (by assumption) ?r0A
  case h0A => (simp only [List.getElem?_toArray, List.getElem?_cons_succ, List.getElem?_cons_zero] <;> rfl)
  case q0A => exact fun _ _ _ h => h
  case w0A => rfl
  case y0A => (intro w hSw; (try dsimp only at hSw); go_simp; (try with_reducible rfl))
  try simp only [Act.put, List.setIfInBounds_toArray, List.set_cons_zero, List.set_cons_succ]
  refine wpAnyH_take (i := 1) (oi := ?o1A) (v := ?v1A) ?h1A (by kernel_rfl) (by kernel_rfl) (by kernel_rfl) ?q1A (Or.inl ⟨?w1A, ?y1A⟩) (by assumption) ?r1A
  case h1A => (simp only [List.getElem?_toArray, List.getElem?_cons_succ, List.getElem?_cons_zero] <;> rfl)
  case q1A => exact fun _ _ _ h => h
  case w1A => rfl
  case y1A => (intro w hSw; (try dsimp only at hSw); go_simp; (try with_reducible rfl))
  try simp only [Act.put, List.setIfInBounds_toArray, List.set_cons_zero, List.set_cons_succ]
  refine wpAnyH_take (i := 2) (oi := ?o2A) (v := ?v2A) ?h2A (by kernel_rfl) (by kernel_rfl) (by kernel_rfl) ?q2A (Or.inl ⟨?w2A, ?y2A⟩) (by assumption) ?r2A
  case h2A => (simp only [List.getElem?_toArray, List.getElem?_cons_succ, List.getElem?_cons_zero] <;> rfl)
  case q2A => exact fun _ _ _ h => h
  case w2A => rfl
  case y2A => (intro w hSw; (try dsimp only at hSw); go_simp; (try with_reducible rfl))
  try simp only [Act.put, List.setIfInBounds_toArray, List.set_cons_zero, List.set_cons_succ]
  refine wpAnyH_take (i := 3) (oi := ?o3A) (v := ?v3A) ?h3A (by kernel_rfl) (by kernel_rfl) (by kernel_rfl) ?q3A (Or.inl ⟨?w3A, ?y3A⟩) (by assumption) ?r3A
  case h3A => (simp only [List.getElem?_toArray, List.getElem?_cons_succ, List.getElem?_cons_zero] <;> rfl)
  case q3A => exact fun _ _ _ h => h
  case w3A => rfl
  case y3A => (intro w hSw; (try dsimp only at hSw); go_simp; (try with_reducible rfl))
  try simp only [Act.put, List.setIfInBounds_toArray, List.set_cons_zero, List.set_cons_succ]
  refine wpAnyH_take (i := 4) (oi := ?o4A) (v := ?v4A) ?h4A (by kernel_rfl) (by kernel_rfl) (by kernel_rfl) ?q4A (Or.inl ⟨?w4A, ?y4A⟩) (by assumption) ?r4A
  case h4A => (simp only [List.getElem?_toArray, List.getElem?_cons_succ, List.getElem?_cons_zero] <;> rfl)
  case q4A => exact fun _ _ _ h => h
  case w4A => rfl
  case y4A => (intro w hSw; (try dsimp only at hSw); go_simp; (try with_reducible rfl))
  try simp only [Act.put, List.setIfInBounds_toArray, List.set_cons_zero, List.set_cons_succ]
  refine wpAnyH_take (i := 5) (oi := ?o5A) (v := ?v5A) ?h5A (by kernel_rfl) (by kernel_rfl) (by kernel_rfl) ?q5A (Or.inl ⟨?w5A, ?y5A⟩) (by assumption) ?r5A
  case h5A => (simp only [List.getElem?_toArray, List.getElem?_cons_succ, List.getElem?_cons_zero] <;> rfl)
  case q5A => exact fun _ _ _ h => h
  case w5A => rfl
  case y5A => (intro w hSw; (try dsimp only at hSw); go_simp; (try with_reducible rfl))
  try simp only [Act.put, List.setIfInBounds_toArray, List.set_cons_zero, List.set_cons_succ]
  refine wpAnyH_take (i := 6) (oi := ?o6A) (v := ?v6A) ?h6A (by kernel_rfl) (by kernel_rfl) (by kernel_rfl) ?q6A (Or.inl ⟨?w6A, ?y6A⟩) (by assumption) ?r6A
  case h6A => (simp only [List.getElem?_toArray, List.getElem?_cons_succ, List.getElem?_cons_zero] <;> rfl)
  case q6A => exact fun _ _ _ h => h
  case w6A => rfl
  case y6A => (intro w hSw; (try dsimp only at hSw); go_simp; (try with_reducible rfl))
  try simp only [Act.put, List.setIfInBounds_toArray, List.set_cons_zero, List.set_cons_succ]
  refine wpAnyH_take (i := 7) (oi := ?o7A) (v := ?v7A) ?h7A (by kernel_rfl) (by kernel_rfl) (by kernel_rfl) ?q7A (Or.inl ⟨?w7A, ?y7A⟩) (by assumption) ?r7A
  case h7A => (simp only [List.getElem?_toArray, List.getElem?_cons_succ, List.getElem?_cons_zero] <;> rfl)
  case q7A => exact fun _ _ _ h => h
  case w7A => rfl
  case y7A => (intro w hSw; (try dsimp only at hSw); go_simp; (try with_reducible rfl))
  try simp only [Act.put, List.setIfInBounds_toArray, List.set_cons_zero, List.set_cons_succ]
  refine wpAnyH_take (i := 8) (oi := ?o8A) (v := ?v8A) ?h8A (by kernel_rfl) (by kernel_rfl) (by kernel_rfl) ?q8A (Or.inl ⟨?w8A, ?y8A⟩) (by assumption) ?r8A
  case h8A => (simp only [List.getElem?_toArray, List.getElem?_cons_succ, List.getElem?_cons_zero] <;> rfl)
  case q8A => exact fun _ _ _ h => h
  case w8A => rfl
  case y8A => (intro w hSw; (try dsimp only at hSw); go_simp; (try with_reducible rfl))
  try simp only [Act.put, List.setIfInBounds_toArray, List.set_cons_zero, List.set_cons_succ]
  refine wpAnyH_ready (rs := [9]) (by kernel_rfl) (by simp) ?_
  refine AllReadyH.cons (o := ?o9A) ?h9A (fun K hK => ?_) AllReadyH.nil
  case h9A => (simp only [List.getElem?_toArray, List.getElem?_cons_succ, List.getElem?_cons_zero] <;> rfl)
  go_simp
  refine hK.out _ _ ?s9A (fun hHeld => ?_)
  case s9A => exact KS.out _ (by go_grown)
  clear hK K
  try simp only [Act.put, List.setIfInBounds_toArray, List.set_cons_zero, List.set_cons_succ]
  refine wpAnyH_take (i := 10) (oi := ?o10A) (v := ?v10A) ?h10A (by kernel_rfl) (by kernel_rfl) (by kernel_rfl) ?q10A (Or.inl ⟨?w10A, ?y10A⟩) (by assumption) ?r10A
  case h10A => (simp only [List.getElem?_toArray, List.getElem?_cons_succ, List.getElem?_cons_zero] <;> rfl)
  case q10A => exact fun _ _ _ h => h
  case w10A => rfl
  case y10A => (intro w hSw; (try dsimp only at hSw); go_simp; (try with_reducible rfl))
  try simp only [Act.put, List.setIfInBounds_toArray, List.set_cons_zero, List.set_cons_succ]
  refine wpAnyH_done (by kernel_rfl) ?_ _
  have BW := Lib.hid hHeld.2.2
  clear hHeld
  go_wp2_with fail
  refine (serBridgeVlanInfo_calls _ a0 a1 _ ha0 ha1 ?hb).mono ?_
  case hb => exact heap_alloc_new w _
  rintro e w9 ⟨v, rfl, ho, hb⟩
  have hsz := BW.out.size
  have HO := Lib.hid (own_lower ho hsz)
  have HB := Lib.hid (BW.out.trans (hb.mono hsz))
  clear ho hb
  go_wp2_with fail
  go_ret
  exact ⟨v, rfl, HO.out, HB.out⟩

set_option maxHeartbeats 4000000 in
set_option maxRecDepth 100000 in
theorem form8_calls (b o c : Nat) (a0 a1 : Int) (w : World) (ha0 : 0 ≤ a0 ∧ a0 < 4294967296) (ha1 : 0 ≤ a1 ∧ a1 < 4294967296) (f0 : w.cell? ⟨b, o, none⟩ = some (.int .u64 a0)) (f1 : w.cell? ⟨b, o + 1, none⟩ = some (.int .u64 a1)) :
    Calls Try.prog 73 #[.int .i64 8, .slice (some ⟨b, o, none⟩) 2 c] w fun e w' => ∃ v, e = .returned v ∧ w'.ownsRow w.heap.size 5 1 v 8 (bytesC (lowB a0 4 ++ lowB a1 4)) ∧ Below w.heap.size w w' := by
  have xa0 : IntKind.u32.wrap a0 = a0 := IntWalk.u32_in _ (by omega)
  have xa1 : IntKind.u32.wrap a1 = a1 := IntWalk.u32_in _ (by omega)
  have KS : Hid (∀ w' : World, Below w.heap.size w w' → w'.cell? ⟨b, o, none⟩ = some (.int .u64 a0) ∧ w'.cell? ⟨b, o + 1, none⟩ = some (.int .u64 a1) ∧ Below w.heap.size w w') := fun W hW => ⟨cells_one hW f0, cells_one hW f1, hW⟩
  go_enter Try.func73, Try.ntmps73
  go_wp2_with fail
  refine wp_region_held_drew (S := fun w' => w'.cell? ⟨b, o, none⟩ = some (.int .u64 a0) ∧ w'.cell? ⟨b, o + 1, none⟩ = some (.int .u64 a1) ∧ Below w.heap.size w w') (by kernel_rfl) (KS.out _ (Below.refl _ _).drew) (fun hHeld => ?_)
  refine wpAnyH_take (i := 0) (oi := ?o0A) (v := ?v0A) ?h0A (by kernel_rfl) (by kernel_rfl) (by kernel_rfl) ?q0A (Or.inl ⟨?w0A, ?y0A⟩) (by assumption) ?r0A
  case h0A => (simp only [List.getElem?_toArray, List.getElem?_cons_succ, List.getElem?_cons_zero] <;> rfl)
  case q0A => exact fun _ _ _ h => h
  case w0A => rfl
  case y0A => (intro w hSw; (try dsimp only at hSw); go_simp; (try with_reducible rfl))
  try simp only [Act.put, List.setIfInBounds_toArray, List.set_cons_zero, List.set_cons_succ]
  refine wpAnyH_take (i := 1) (oi := ?o1A) (v := ?v1A) ?h1A (by kernel_rfl) (by kernel_rfl) (by kernel_rfl) ?q1A (Or.inl ⟨?w1A, ?y1A⟩) (by assumption) ?r1A
  case h1A => (simp only [List.getElem?_toArray, List.getElem?_cons_succ, List.getElem?_cons_zero] <;> rfl)
  case q1A => exact fun _ _ _ h => h
  case w1A => rfl
  case y1A => (intro w hSw; (try dsimp only at hSw); go_simp; (try with_reducible rfl))
  try simp only [Act.put, List.setIfInBounds_toArray, List.set_cons_zero, List.set_cons_succ]
  refine wpAnyH_take (i := 2) (oi := ?o2A) (v := ?v2A) ?h2A (by kernel_rfl) (by kernel_rfl) (by kernel_rfl) ?q2A (Or.inl ⟨?w2A, ?y2A⟩) (by assumption) ?r2A
  case h2A => (simp only [List.getElem?_toArray, List.getElem?_cons_succ, List.getElem?_cons_zero] <;> rfl)
  case q2A => exact fun _ _ _ h => h
  case w2A => rfl
  case y2A => (intro w hSw; (try dsimp only at hSw); go_simp; (try with_reducible rfl))
  try simp only [Act.put, List.setIfInBounds_toArray, List.set_cons_zero, List.set_cons_succ]
  refine wpAnyH_take (i := 3) (oi := ?o3A) (v := ?v3A) ?h3A (by kernel_rfl) (by kernel_rfl) (by kernel_rfl) ?q3A (Or.inl ⟨?w3A, ?y3A⟩) (by assumption) ?r3A
  case h3A => (simp only [List.getElem?_toArray, List.getElem?_cons_succ, List.getElem?_cons_zero] <;> rfl)
  case q3A => exact fun _ _ _ h => h
  case w3A => rfl
  case y3A => (intro w hSw; (try dsimp only at hSw); go_simp; (try with_reducible rfl))
  try simp only [Act.put, List.setIfInBounds_toArray, List.set_cons_zero, List.set_cons_succ]
  refine wpAnyH_take (i := 4) (oi := ?o4A) (v := ?v4A) ?h4A (by kernel_rfl) (by kernel_rfl) (by kernel_rfl) ?q4A (Or.inl ⟨?w4A, ?y4A⟩) (by assumption) ?r4A
  case h4A => (simp only [List.getElem?_toArray, List.getElem?_cons_succ, List.getElem?_cons_zero] <;> rfl)
  case q4A => exact fun _ _ _ h => h
  case w4A => rfl
  case y4A => (intro w hSw; (try dsimp only at hSw); go_simp; (try with_reducible rfl))
  try simp only [Act.put, List.setIfInBounds_toArray, List.set_cons_zero, List.set_cons_succ]
  refine wpAnyH_take (i := 5) (oi := ?o5A) (v := ?v5A) ?h5A (by kernel_rfl) (by kernel_rfl) (by kernel_rfl) ?q5A (Or.inl ⟨?w5A, ?y5A⟩) (by assumption) ?r5A
  case h5A => (simp only [List.getElem?_toArray, List.getElem?_cons_succ, List.getElem?_cons_zero] <;> rfl)
  case q5A => exact fun _ _ _ h => h
  case w5A => rfl
  case y5A => (intro w hSw; (try dsimp only at hSw); go_simp; (try with_reducible rfl))
  try simp only [Act.put, List.setIfInBounds_toArray, List.set_cons_zero, List.set_cons_succ]
  refine wpAnyH_take (i := 6) (oi := ?o6A) (v := ?v6A) ?h6A (by kernel_rfl) (by kernel_rfl) (by kernel_rfl) ?q6A (Or.inl ⟨?w6A, ?y6A⟩) (by assumption) ?r6A
  case h6A => (simp only [List.getElem?_toArray, List.getElem?_cons_succ, List.getElem?_cons_zero] <;> rfl)
  case q6A => exact fun _ _ _ h => h
  case w6A => rfl
  case y6A => (intro w hSw; (try dsimp only at hSw); go_simp; (try with_reducible rfl))
  try simp only [Act.put, List.setIfInBounds_toArray, List.set_cons_zero, List.set_cons_succ]
  refine wpAnyH_take (i := 7) (oi := ?o7A) (v := ?v7A) ?h7A (by kernel_rfl) (by kernel_rfl) (by kernel_rfl) ?q7A (Or.inl ⟨?w7A, ?y7A⟩) (by assumption) ?r7A
  case h7A => (simp only [List.getElem?_toArray, List.getElem?_cons_succ, List.getElem?_cons_zero] <;> rfl)
  case q7A => exact fun _ _ _ h => h
  case w7A => rfl
  case y7A => (intro w hSw; (try dsimp only at hSw); go_simp; (try with_reducible rfl))
  try simp only [Act.put, List.setIfInBounds_toArray, List.set_cons_zero, List.set_cons_succ]
  refine wpAnyH_take (i := 8) (oi := ?o8A) (v := ?v8A) ?h8A (by kernel_rfl) (by kernel_rfl) (by kernel_rfl) ?q8A (Or.inl ⟨?w8A, ?y8A⟩) (by assumption) ?r8A
  case h8A => (simp only [List.getElem?_toArray, List.getElem?_cons_succ, List.getElem?_cons_zero] <;> rfl)
  case q8A => exact fun _ _ _ h => h
  case w8A => rfl
  case y8A => (intro w hSw; (try dsimp only at hSw); go_simp; (try with_reducible rfl))
  try simp only [Act.put, List.setIfInBounds_toArray, List.set_cons_zero, List.set_cons_succ]
  refine wpAnyH_ready (rs := [9]) (by kernel_rfl) (by simp) ?_
  refine AllReadyH.cons (o := ?o9A) ?h9A (fun K hK => ?_) AllReadyH.nil
  case h9A => (simp only [List.getElem?_toArray, List.getElem?_cons_succ, List.getElem?_cons_zero] <;> rfl)
  go_simp
  refine hK.out _ _ ?s9A (fun hHeld => ?_)
  case s9A => exact KS.out _ (by go_grown)
  clear hK K
  try simp only [Act.put, List.setIfInBounds_toArray, List.set_cons_zero, List.set_cons_succ]
  refine wpAnyH_take (i := 10) (oi := ?o10A) (v := ?v10A) ?h10A (by kernel_rfl) (by kernel_rfl) (by kernel_rfl) ?q10A (Or.inl ⟨?w10A, ?y10A⟩) (by assumption) ?r10A
  case h10A => (simp only [List.getElem?_toArray, List.getElem?_cons_succ, List.getElem?_cons_zero] <;> rfl)
  case q10A => exact fun _ _ _ h => h
  case w10A => rfl
  case y10A => (intro w hSw; (try dsimp only at hSw); go_simp; (try with_reducible rfl))
  try simp only [Act.put, List.setIfInBounds_toArray, List.set_cons_zero, List.set_cons_succ]
  refine wpAnyH_done (by kernel_rfl) ?_ _
  have BW := Lib.hid hHeld.2.2
  clear hHeld
  go_wp2_with fail
  refine (serUint32Bitfield_calls _ a0 a1 _ ha0 ha1 ?hb).mono ?_
  case hb => exact heap_alloc_new w _
  rintro e w9 ⟨v, rfl, ho, hb⟩
  have hsz := BW.out.size
  have HO := Lib.hid (own_lower ho hsz)
  have HB := Lib.hid (BW.out.trans (hb.mono hsz))
  clear ho hb
  go_wp2_with fail
  go_ret
  exact ⟨v, rfl, HO.out, HB.out⟩

end Go.Proofs.Ytbogknjgjbhagaa
