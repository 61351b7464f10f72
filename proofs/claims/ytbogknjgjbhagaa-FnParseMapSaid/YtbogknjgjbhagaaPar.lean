/- An attribute read out of bytes: its header, its value. -/
import Derived.Test.YtbogknjgjbhagaaPrs3
import Derived.Deep.RegionHeld3
namespace Go.Proofs.Ytbogknjgjbhagaa
open Go.RowKit
set_option linter.unusedSimpArgs false

set_option maxHeartbeats 1000000 in
theorem align_calls (n : Int) (w : World) (h : 0 ≤ n ∧ n ≤ 1000000) : Calls Try.prog 89 #[.int .i64 n] w fun e w' => e = .returned (.int .i64 ((n + 3) / 4 * 4)) ∧ w = w' := by
  have e := and_m4 (n + 3) (by omega) (by omega)
  have e2 : n + 4 - 1 = n + 3 := by omega
  go_enter Try.func89, Try.ntmps89
  go_wp2_with fail
  go_ret
  exact ⟨by rw [← e]; rfl, rfl⟩

set_option maxHeartbeats 1000000 in
set_option maxRecDepth 100000 in
theorem dec_calls (b o n c : Nat) (x y : List Int) (w : World) (hx : AllB x) (hy : AllB y) (hxl : x.length = 2) (hyl : y.length = 2) (hn : 4 ≤ n) (hmax : n ≤ 4611686018427387904)
    (hcx : ∀ j, j < 2 → w.cell? ⟨b, o + j, none⟩ = some (.int .u8 (x.getD j 0))) (hcy : ∀ j, j < 2 → w.cell? ⟨b, o + (2 + j), none⟩ = some (.int .u8 (y.getD j 0))) :
    Calls Try.prog 121 #[.slice (some ⟨b, o, none⟩) n c] w fun e w' => ∃ g, e = .returned (.pointer (some ⟨g, 0, none⟩)) ∧ w'.heap[g]? = some (.cells #[.int .u16 (leV x), .int .u16 (leV y)] 90 (0, 0)) ∧ Below w.heap.size w w' := by
  have HX := Lib.hid hx
  have HY := Lib.hid hy
  have HCX := Lib.hid hcx
  have HCY := Lib.hid hcy
  have lx := leV_lt2 x hx (by omega)
  have ly := leV_lt2 y hy (by omega)
  have wx : IntKind.u16.wrap (leV x) = leV x := IntWalk.u16_in _ (by omega)
  have wy : IntKind.u16.wrap (leV y) = leV y := IntWalk.u16_in _ (by omega)
  clear hx hy hcx hcy
  have hmem : ∀ (u : Obj) p v, w.cell? p = some v → (w.alloc u).cell? p = some v := fun u p v h => by rw [((Below.refl _ w).alloc (Nat.le_refl _) u).cell (World.block_lt_of_cell? w _ h)]; exact h
  have HM := Lib.hid hmem
  clear hmem
  go_enter Try.func121, Try.ntmps121
  go_wp2_with fail
  refine (getLE_calls b o n c 0 2 0 2 x _ HX.out hxl (by omega) (by omega) hmax rfl rfl (fun j hj => by rw [Nat.zero_add]; exact HM.out _ _ _ (HCX.out j hj))).mono ?_
  rintro e w' ⟨rfl, rfl⟩
  go_wp2_with fail
  refine (getLE_calls b o n c 2 2 2 2 y _ HY.out hyl (by omega) (by omega) hmax rfl rfl (fun j hj => HM.out _ _ _ (HCY.out j hj))).mono ?_
  rintro e w' ⟨rfl, rfl⟩
  go_wp2_with fail
  go_ret
  exact ⟨_, rfl, heap_alloc_new w _, (Below.refl _ w).alloc (Nat.le_refl _) _⟩

/-- Where a slice from k on begins: a part that has no room lies where the whole does. -/
def from4 (b o c k : Nat) : Option Addr := if c = k then some ⟨b, o, none⟩ else some ⟨b, o + k, none⟩
theorem from4_rd {w : World} {b o n c k : Nat} {cs : List Value} (h : ∀ j u, cs[j]? = some u → w.cell? ⟨b, o + j, none⟩ = some u) (hl : cs.length = n) (hn : n ≤ c) : Rd w (from4 b o c k) (cs.drop k) := by
  unfold from4
  by_cases hc : c = k
  · rw [if_pos hc, List.drop_eq_nil_of_le (by omega)]; exact Rd.nil _ _
  · rw [if_neg hc]
    exact fun _ => ⟨b, o + k, rfl, Rd.drop h k⟩
theorem from4_some (b o c k : Nat) : from4 b o c k ≠ none := by unfold from4; split <;> simp

set_option maxHeartbeats 1000000 in
set_option maxRecDepth 100000 in
theorem value_calls (b o n c : Nat) (x y : List Int) (w : World) (hx : AllB x) (hy : AllB y) (hxl : x.length = 2) (hyl : y.length = 2) (hn : 4 ≤ n) (_hnc : n ≤ c) (hmax : n ≤ 1000000)
    (hcx : ∀ j, j < 2 → w.cell? ⟨b, o + j, none⟩ = some (.int .u8 (x.getD j 0))) (hcy : ∀ j, j < 2 → w.cell? ⟨b, o + (2 + j), none⟩ = some (.int .u8 (y.getD j 0))) (hL : 4 ≤ leV x) (hLn : leV x ≤ n) :
    Calls Try.prog 87 #[.slice (some ⟨b, o, none⟩) n c] w fun e w' => ∃ g, e = .returned (.tuple #[.pointer (some ⟨g, 0, none⟩), .slice (from4 b o c 4) (n - 4) (c - 4), .int .i64 ((leV x + 3) / 4 * 4), .nilIface]) ∧
      w'.heap[g]? = some (.cells #[.int .u16 (leV x), .int .u16 (leV y)] 90 (0, 0)) ∧ Below w.heap.size w w' := by
  have HX := Lib.hid hx
  have HY := Lib.hid hy
  have HCX := Lib.hid hcx
  have HCY := Lib.hid hcy
  have hx2 := leV_lt2 x hx (by omega)
  clear hx hy hcx hcy
  go_enter Try.func87, Try.ntmps87
  go_wp2_with fail
  refine (dec_calls b o n c x y w HX.out HY.out hxl hyl hn (by omega) HCX.out HCY.out).mono ?_
  rintro e w1 ⟨g, rfl, hg, hb⟩
  have HG := Lib.hid hg
  have HB := Lib.hid hb
  have c0 : w1.cell? ⟨g, 0, none⟩ = some (.int .u16 (leV x)) := (cell_of_row _ _ 0 _ _ (0, 0) hg).trans rfl
  have wL : IntKind.i64.wrap (leV x) = leV x := IntWalk.i64_in _ (by omega)
  clear hg hb
  have i4 : (4 : Int) ≤ (n : Int) := by omega
  go_wp2_with fail
  refine wp_region_held_drew (S := fun w' => w'.cell? ⟨g, 0, none⟩ = some (.int .u16 (leV x)) ∧ w1.heap.size ≤ w'.heap.size ∧ Below w1.heap.size w1 w') (by kernel_rfl) ⟨c0, Nat.le_refl _, (Below.refl _ _).drew⟩ (fun hHeld => ?_)
  refine wpAnyH_take (i := 0) (oi := ?o0) (v := ?v0) ?h0 (by kernel_rfl) (by kernel_rfl) (by kernel_rfl) ?q0 (Or.inl ⟨?w0, ?y0⟩) (by assumption) ?r0
  case h0 => (simp only [List.getElem?_toArray, List.getElem?_cons_succ, List.getElem?_cons_zero] <;> rfl)
  case q0 => exact fun _ _ _ h => h
  case w0 => rfl
  case y0 => (intro w hSw; (try dsimp only at hSw); go_simp; (try with_reducible rfl))
  try simp only [Act.put, List.setIfInBounds_toArray, List.set_cons_zero, List.set_cons_succ]
  refine wpAnyH_take (i := 1) (oi := ?o1) (v := ?v1) ?h1 (by kernel_rfl) (by kernel_rfl) (by kernel_rfl) ?q1 (Or.inl ⟨?w1, ?y1⟩) (by assumption) ?r1
  case h1 => (simp only [List.getElem?_toArray, List.getElem?_cons_succ, List.getElem?_cons_zero] <;> rfl)
  case q1 => exact fun _ _ _ h => h
  case w1 => rfl
  case y1 => (intro w hSw; (try dsimp only at hSw); go_simp; (try with_reducible rfl))
  try simp only [Act.put, List.setIfInBounds_toArray, List.set_cons_zero, List.set_cons_succ]
  refine wpAnyH_take (i := 2) (oi := ?o2) (v := ?v2) ?h2 (by kernel_rfl) (by kernel_rfl) (by kernel_rfl) ?q2 (Or.inl ⟨?w2, ?y2⟩) (by assumption) ?r2
  case h2 => (simp only [List.getElem?_toArray, List.getElem?_cons_succ, List.getElem?_cons_zero] <;> rfl)
  case q2 => exact fun _ _ _ h => h
  case w2 => rfl
  case y2 => (intro w hSw; (try dsimp only at hSw); go_simp; (try with_reducible rfl))
  try simp only [Act.put, List.setIfInBounds_toArray, List.set_cons_zero, List.set_cons_succ]
  refine wpAnyH_take (i := 3) (oi := ?o3) (v := ?v3) ?h3 (by kernel_rfl) (by kernel_rfl) (by kernel_rfl) ?q3 (Or.inl ⟨?w3, ?y3⟩) (by assumption) ?r3
  case h3 => (simp only [List.getElem?_toArray, List.getElem?_cons_succ, List.getElem?_cons_zero] <;> rfl)
  case q3 => exact fun _ _ _ h => h
  case w3 => rfl
  case y3 => (intro w hSw; (try dsimp only at hSw); go_simp; (try with_reducible rfl))
  try simp only [Act.put, List.setIfInBounds_toArray, List.set_cons_zero, List.set_cons_succ]
  refine wpAnyH_take (i := 4) (oi := ?o4) (v := ?v4) ?h4 (by kernel_rfl) (by kernel_rfl) (by kernel_rfl) ?q4 (Or.inl ⟨?w4, ?y4⟩) (by assumption) ?r4
  case h4 => (simp only [List.getElem?_toArray, List.getElem?_cons_succ, List.getElem?_cons_zero] <;> rfl)
  case q4 => exact fun _ _ _ h => h
  case w4 => rfl
  case y4 => (intro w hSw; (try dsimp only at hSw); go_simp; (try with_reducible rfl))
  try simp only [Act.put, List.setIfInBounds_toArray, List.set_cons_zero, List.set_cons_succ]
  refine wpAnyH_take (i := 5) (oi := ?o5) (v := ?v5) ?h5 (by kernel_rfl) (by kernel_rfl) (by kernel_rfl) ?q5 (Or.inl ⟨?w5, ?y5⟩) (by assumption) ?r5
  case h5 => (simp only [List.getElem?_toArray, List.getElem?_cons_succ, List.getElem?_cons_zero] <;> rfl)
  case q5 => exact fun _ _ _ h => h
  case w5 => rfl
  case y5 => (intro w hSw; (try dsimp only at hSw); go_simp; (try with_reducible rfl))
  try simp only [Act.put, List.setIfInBounds_toArray, List.set_cons_zero, List.set_cons_succ]
  refine wpAnyH_take (i := 6) (oi := ?o6) (v := ?v6) ?h6 (by kernel_rfl) (by kernel_rfl) (by kernel_rfl) ?q6 (Or.inl ⟨?w6, ?y6⟩) (by assumption) ?r6
  case h6 => (simp only [List.getElem?_toArray, List.getElem?_cons_succ, List.getElem?_cons_zero] <;> rfl)
  case q6 => exact fun _ _ _ h => h
  case w6 => rfl
  case y6 => (intro w hSw; (try dsimp only at hSw); go_simp; (try with_reducible rfl))
  try simp only [Act.put, List.setIfInBounds_toArray, List.set_cons_zero, List.set_cons_succ]
  refine wpAnyH_take (i := 7) (oi := ?o7) (v := ?v7) ?h7 (by kernel_rfl) (by kernel_rfl) (by kernel_rfl) ?q7 (Or.inl ⟨?w7, ?y7⟩) (by assumption) ?r7
  case h7 => (simp only [List.getElem?_toArray, List.getElem?_cons_succ, List.getElem?_cons_zero] <;> rfl)
  case q7 => exact fun _ _ _ h => h
  case w7 => rfl
  case y7 => (intro w hSw; (try dsimp only at hSw); go_simp; (try with_reducible rfl))
  try simp only [Act.put, List.setIfInBounds_toArray, List.set_cons_zero, List.set_cons_succ]
  refine wpAnyH_ready (rs := [8]) (by kernel_rfl) (by simp) ?_
  refine AllReadyH.cons (o := ?o8) ?h8 (fun K hK => ?_) AllReadyH.nil
  case h8 => (simp only [List.getElem?_toArray, List.getElem?_cons_succ, List.getElem?_cons_zero] <;> rfl)
  go_simp
  refine (align_calls _ _ (by omega)).mono ?_
  rintro e w' ⟨rfl, rfl⟩
  refine hK.out _ _ ?s8 (fun hHeld => ?_)
  case s8 => exact ⟨c0, Nat.le_refl _, (Below.refl _ _).drew⟩
  clear hK K
  try simp only [Act.put, List.setIfInBounds_toArray, List.set_cons_zero, List.set_cons_succ]
  refine wpAnyH_take (i := 9) (oi := ?o9) (v := ?v9) ?h9 (by kernel_rfl) (by kernel_rfl) (by kernel_rfl) ?q9 (Or.inl ⟨?w9, ?y9⟩) (by assumption) ?r9
  case h9 => (simp only [List.getElem?_toArray, List.getElem?_cons_succ, List.getElem?_cons_zero] <;> rfl)
  case q9 => exact fun _ _ _ h => h
  case w9 => rfl
  case y9 => (intro w hSw; (try dsimp only at hSw); go_simp; (try with_reducible rfl))
  try simp only [Act.put, List.setIfInBounds_toArray, List.set_cons_zero, List.set_cons_succ]
  refine wpAnyH_take (i := 10) (oi := ?o10) (v := ?v10) ?h10 (by kernel_rfl) (by kernel_rfl) (by kernel_rfl) ?q10 (Or.inl ⟨?w10, ?y10⟩) (by assumption) ?r10
  case h10 => (simp only [List.getElem?_toArray, List.getElem?_cons_succ, List.getElem?_cons_zero] <;> rfl)
  case q10 => exact fun _ _ _ h => h
  case w10 => rfl
  case y10 => (intro w hSw; (try dsimp only at hSw); go_simp; (try with_reducible rfl))
  try simp only [Act.put, List.setIfInBounds_toArray, List.set_cons_zero, List.set_cons_succ]
  refine wpAnyH_take (i := 11) (oi := ?o11) (v := ?v11) ?h11 (by kernel_rfl) (by kernel_rfl) (by kernel_rfl) ?q11 (Or.inl ⟨?w11, ?y11⟩) (by assumption) ?r11
  case h11 => (simp only [List.getElem?_toArray, List.getElem?_cons_succ, List.getElem?_cons_zero] <;> rfl)
  case q11 => exact fun _ _ _ h => h
  case w11 => rfl
  case y11 => (intro w hSw; (try dsimp only at hSw); go_simp; (try with_reducible rfl))
  try simp only [Act.put, List.setIfInBounds_toArray, List.set_cons_zero, List.set_cons_succ]
  refine wpAnyH_take (i := 12) (oi := ?o12) (v := ?v12) ?h12 (by kernel_rfl) (by kernel_rfl) (by kernel_rfl) ?q12 (Or.inl ⟨?w12, ?y12⟩) (by assumption) ?r12
  case h12 => (simp only [List.getElem?_toArray, List.getElem?_cons_succ, List.getElem?_cons_zero] <;> rfl)
  case q12 => exact fun _ _ _ h => h
  case w12 => rfl
  case y12 => (intro w hSw; (try dsimp only at hSw); go_simp; (try with_reducible rfl))
  try simp only [Act.put, List.setIfInBounds_toArray, List.set_cons_zero, List.set_cons_succ]
  refine wpAnyH_done (by kernel_rfl) ?_ _
  have hA : (if c = 4 then some (⟨b, o, none⟩ : Addr) else some ⟨b, o + 4, none⟩) = from4 b o c 4 := rfl
  rw [hA]
  go_wp2_with fail
  refine bodyPost_ret (v := .tuple #[.pointer (some ⟨g, 0, none⟩), .slice (from4 b o c 4) (n - 4) (c - 4), .int .i64 ((leV x + 3) / 4 * 4), .nilIface]) (by simp [results, Try.results87, go_sem]) rfl ⟨_, rfl, HG.out, HB.out.drew⟩

def errV : Value := .iface 199 (.string { data := #[105, 110, 118, 97, 108, 105, 100, 32, 97, 114, 103, 117, 109, 101, 110, 116] })

set_option maxHeartbeats 1000000 in
set_option maxRecDepth 100000 in
theorem value_fails (b o n c : Nat) (x y : List Int) (w : World) (hx : AllB x) (hy : AllB y) (hxl : x.length = 2) (hyl : y.length = 2) (hn : 4 ≤ n) (hmax : n ≤ 1000000)
    (hcx : ∀ j, j < 2 → w.cell? ⟨b, o + j, none⟩ = some (.int .u8 (x.getD j 0))) (hcy : ∀ j, j < 2 → w.cell? ⟨b, o + (2 + j), none⟩ = some (.int .u8 (y.getD j 0))) (hL : 4 ≤ leV x) (hLn : (n : Int) < leV x) :
    Calls Try.prog 87 #[.slice (some ⟨b, o, none⟩) n c] w fun e w' => e = .returned (.tuple #[.pointer none, .slice none 0 0, .int .i64 0, errV]) ∧ Below w.heap.size w w' := by
  have HX := Lib.hid hx
  have HY := Lib.hid hy
  have HCX := Lib.hid hcx
  have HCY := Lib.hid hcy
  have hx2 := leV_lt2 x hx (by omega)
  clear hx hy hcx hcy
  go_enter Try.func87, Try.ntmps87
  go_wp2_with fail
  refine (dec_calls b o n c x y w HX.out HY.out hxl hyl hn (by omega) HCX.out HCY.out).mono ?_
  rintro e w1 ⟨g, rfl, hg, hb⟩
  have HG := Lib.hid hg
  have HB := Lib.hid hb
  have c0 : w1.cell? ⟨g, 0, none⟩ = some (.int .u16 (leV x)) := (cell_of_row _ _ 0 _ _ (0, 0) hg).trans rfl
  have wL : IntKind.i64.wrap (leV x) = leV x := IntWalk.i64_in _ (by omega)
  clear hg hb
  have i4 : (4 : Int) ≤ (n : Int) := by omega
  go_wp2_with fail
  refine bodyPost_ret (v := .tuple #[.pointer none, .slice none 0 0, .int .i64 0, errV]) (by simp [results, Try.results87, go_sem, errV]) rfl ⟨rfl, HB.out⟩
end Go.Proofs.Ytbogknjgjbhagaa
