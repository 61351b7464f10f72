/- The statement on numbers of attributes, walked: whatever type and numbers come in, it answers true. -/
import Derived.Test.YtbogknjgjbhagaaNum2
import Derived.Deep.DeepCutAuto
namespace Go.Proofs.Ytbogknjgjbhagaa
open Go.RowKit
set_option linter.unusedSimpArgs false

/-- A type out of its range: nothing is compared. -/
theorem fnNumber_out (kind n m : Int) (w : World) (h : kind < 0 ∨ 65535 < kind) :
    Calls Try.prog 5 #[.int .i64 kind, .int .u32 n, .int .u64 m] w fun e w' => e = .returned (.bool true) ∧ Below w.heap.size w w' := by
  by_cases h0 : kind < 0
  · clear h
    go_enter Try.func5, Try.ntmps5
    go_wp2_with (go_at_call 11; refine (works_calls _).mono ?_; rintro e w' ⟨rfl, rfl⟩)
    go_ret
    exact ⟨rfl, Below.refl _ _⟩
  · have h1 : 65535 < kind := by omega
    have h2 : 0 ≤ kind := by omega
    clear h h0
    go_enter Try.func5, Try.ntmps5
    go_wp2_with (go_at_call 11; refine (works_calls _).mono ?_; rintro e w' ⟨rfl, rfl⟩)
    go_ret
    exact ⟨rfl, Below.refl _ _⟩

/-- The rows behind k rounds: the number's bytes at their places. -/
def rowAt (pos : Nat → Nat) (N : Nat) (v : Int) (k : Nat) : List Value := (List.range k).foldl (fun ys i => ys.set (pos i) (.int .u8 (byteLe v i))) (List.replicate N (.int .u8 0))
theorem rowAt_succ (pos : Nat → Nat) (N : Nat) (v : Int) (k : Nat) : rowAt pos N v (k + 1) = (rowAt pos N v k).set (pos k) (.int .u8 (byteLe v k)) := by
  simp [rowAt, List.range_succ]

theorem rowAt_length (pos : Nat → Nat) (N : Nat) (v : Int) (k : Nat) : (rowAt pos N v k).length = N := by
  induction k with
  | zero => simp [rowAt]
  | succ k ih => rw [rowAt_succ, List.length_set, ih]

theorem own_two (w : World) (A B : Array Value) (e : TypeId) (n m : Nat) (hA : A.size = n) (hB : B.size = m) (hn : n ≤ maxLen) (hm : m ≤ maxLen) :
    ((w.alloc (.cells A e)).alloc (.cells B e)).drew.ownsRow w.heap.size e 1 (.slice (some ⟨w.heap.size, 0, none⟩) n n) n A.toList ∧
    ((w.alloc (.cells A e)).alloc (.cells B e)).drew.ownsRow w.heap.size e 1 (.slice (some ⟨w.heap.size + 1, 0, none⟩) m m) m B.toList := by
  have h1 := (World.ownsRow_lit (base := w.heap.size) (e := e) (size := 1) w A n (Nat.le_refl _) hn (by omega)).alloc (.cells B e)
  have h2 := World.ownsRow_lit (base := w.heap.size) (e := e) (size := 1) (w.alloc (.cells A e)) B m (by simp) hm (by omega)
  rw [World.size_alloc] at h2
  exact ⟨h1, h2⟩

theorem and_bit14i (t : Int) (h : 0 ≤ t) (h1 : t < 65536) : bits .and .i64 t 16384 = t / 16384 % 2 * 16384 := by
  obtain ⟨n, rfl⟩ := Int.eq_ofNat_of_zero_le h
  have h2 := (bits_nat .i64 63 (by decide) (fun n h0 h1 => by rw [IntKind.wrap_i64]; omega) n 16384 (by omega) (by omega)).1
  rw [nat_bit14] at h2
  exact h2.trans (by omega)

theorem byteLe_range (v : Int) (i : Nat) : 0 ≤ byteLe v i ∧ byteLe v i < 256 := by
  unfold byteLe
  generalize ((256 ^ i : Nat) : Int) = q
  omega

def b4 (n : Int) : List Int := [byteLe n 0, byteLe n 1, byteLe n 2, byteLe n 3]
def b8 (n : Int) : List Int := [byteLe n 0, byteLe n 1, byteLe n 2, byteLe n 3, byteLe n 4, byteLe n 5, byteLe n 6, byteLe n 7]

theorem b4_all (n : Int) : AllB (b4 n) := by
  intro x hx
  simp only [b4, List.mem_cons, List.not_mem_nil, or_false] at hx
  rcases hx with rfl | rfl | rfl | rfl <;> exact byteLe_range _ _
theorem b8_all (n : Int) : AllB (b8 n) := by
  intro x hx
  simp only [b8, List.mem_cons, List.not_mem_nil, or_false] at hx
  rcases hx with rfl | rfl | rfl | rfl | rfl | rfl | rfl | rfl <;> exact byteLe_range _ _
theorem rev_all {l : List Int} (h : AllB l) : AllB l.reverse := fun x hx => h x (by simpa using hx)

theorem leV_b4 (n : Int) (h : 0 ≤ n ∧ n < 4294967296) : leV (b4 n) = n := by
  simp [b4, leV, byteLe]
  omega
theorem leV_b8 (n : Int) (h : 0 ≤ n ∧ n < 18446744073709551616) : leV (b8 n) = n := by
  simp [b8, leV, byteLe]
  omega

theorem numOf_host (kind : Int) (l : List Int) (h : kind / 16384 % 2 = 0) : numOf kind l = leV l := by
  unfold numOf; rw [if_neg (by omega)]
theorem numOf_net (kind : Int) (l : List Int) (h : kind / 16384 % 2 = 1) : numOf kind l = leV l.reverse := by
  unfold numOf; rw [if_pos h]

/-- The cells of an owned row of bytes. -/
theorem own_cells {w : World} {base g N cap : Nat} {l : List Int} (h : w.ownsRow base 5 1 (.slice (some ⟨g, 0, none⟩) N cap) N (bytesC l)) : ∀ j u, (bytesC l)[j]? = some u → w.cell? ⟨g, 0 + j, none⟩ = some u := by
  intro j u hj
  rw [Nat.zero_add, h.cellAt j (by have := (List.getElem?_eq_some_iff.1 hj).1; have := h.1; omega)]
  exact hj

/-- Two rows of one world, a store into one. -/
theorem own_other_set {w : World} {base : Nat} {e : TypeId} {size g g2 N cap : Nat} {xs : List Value} (h : w.ownsRow base e size (.slice (some ⟨g, 0, none⟩) N cap) N xs) (hne : g ≠ g2) (j : Nat) (u : Value) :
    (w.setCell ⟨g2, j, none⟩ u).ownsRow base e size (.slice (some ⟨g, 0, none⟩) N cap) N xs := ownsRow_setCell_other h (by simp [Value.ownBlock, hne]) u

set_option maxHeartbeats 4000000 in
set_option maxRecDepth 100000 in
theorem fnNumber_host (kind n m : Int) (w : World) (hk0 : 0 ≤ kind) (hk1 : kind < 65536) (hbit : kind / 16384 % 2 = 0) (hn : 0 ≤ n ∧ n < 4294967296) (hm : 0 ≤ m ∧ m < 18446744073709551616) :
    Calls Try.prog 5 #[.int .i64 kind, .int .u32 n, .int .u64 m] w fun e w' => e = .returned (.bool true) ∧ Below w.heap.size w w' := by
  have hmk4 : ∀ w, (Instr.makeSlice 31 (.int .i64 4) (.int .i64 4)).run Try.prog w = .ok (.slice (some ⟨w.heap.size, 0, none⟩) 4 4) (w.alloc (.cells #[.int .u8 0, .int .u8 0, .int .u8 0, .int .u8 0] 5)) := fun _ => by kernel_rfl
  have hmk8 : ∀ w, (Instr.makeSlice 31 (.int .i64 8) (.int .i64 8)).run Try.prog w = .ok (.slice (some ⟨w.heap.size, 0, none⟩) 8 8) (w.alloc (.cells #[.int .u8 0, .int .u8 0, .int .u8 0, .int .u8 0, .int .u8 0, .int .u8 0, .int .u8 0, .int .u8 0] 5)) := fun _ => by kernel_rfl
  have hand : bits BinOp.and IntKind.i64 kind 16384 = 0 := by rw [and_bit14i kind hk0 hk1, hbit]; rfl
  have NB := Lib.hid hn
  have MB := Lib.hid hm
  have HBIT := Lib.hid hbit
  clear hbit
  go_enter Try.func5, Try.ntmps5
  go_upto_region 3 with (fail)
  go_cut [7, 8] (fun v7 v8 wc => ∃ g1 g2 : Nat, g1 ≠ g2 ∧ v7 = .slice (some ⟨g1, 0, none⟩) 4 4 ∧ v8 = .slice (some ⟨g2, 0, none⟩) 8 8 ∧ wc.ownsRow w.heap.size 5 1 (.slice (some ⟨g1, 0, none⟩) 4 4) 4 (rowAt id 4 n 0) ∧ wc.ownsRow w.heap.size 5 1 (.slice (some ⟨g2, 0, none⟩) 8 8) 8 (rowAt id 8 m 0) ∧ Below w.heap.size w wc)
  case first =>
    go_region
    all_goals go_wp2_with fail
    all_goals go_meet
    case rel =>
      have h := own_two w #[.int .u8 0, .int .u8 0, .int .u8 0, .int .u8 0] #[.int .u8 0, .int .u8 0, .int .u8 0, .int .u8 0, .int .u8 0, .int .u8 0, .int .u8 0, .int .u8 0] 5 4 8 rfl rfl (by decide) (by decide)
      exact ⟨w.heap.size, w.heap.size + 1, by omega, rfl, rfl, h.1, h.2, (below2 w _ _).drew⟩
    case rel =>
      have h := own_two w #[.int .u8 0, .int .u8 0, .int .u8 0, .int .u8 0, .int .u8 0, .int .u8 0, .int .u8 0, .int .u8 0] #[.int .u8 0, .int .u8 0, .int .u8 0, .int .u8 0] 5 8 4 rfl rfl (by decide) (by decide)
      exact ⟨w.heap.size + 1, w.heap.size, by omega, rfl, rfl, h.2, h.1, (below2 w _ _).drew⟩
  case rest =>
    obtain ⟨g1, g2, hne, rfl, rfl, o1, o2, hb⟩ := hcut
    have O1 := Lib.hid o1
    have O2 := Lib.hid o2
    have HB := Lib.hid hb
    clear o1 o2 hb hmk4 hmk8
    go_wp2_with fail
    go_loopw [27] (fun i wr => ∃ k : Nat, k ≤ 8 ∧ i = .int .i64 k ∧ wr.ownsRow w.heap.size 5 1 (.slice (some ⟨g1, 0, none⟩) 4 4) 4 (rowAt id 4 n (min k 4)) ∧ wr.ownsRow w.heap.size 5 1 (.slice (some ⟨g2, 0, none⟩) 8 8) 8 (rowAt id 8 m k) ∧ Below w.heap.size w wr) (fun i _ => 8 - (intOf i).toNat)
    case atStart => exact ⟨0, by omega, rfl, O1.out, O2.out, HB.out⟩
    case round =>
      obtain ⟨k, hk, rfl, o1, o2, hb⟩ := hrel
      clear O1 O2 HB
      by_cases hlt : k < 8
      · obtain ⟨u2, hu2⟩ : ∃ u, wr.cell? ⟨g2, k, none⟩ = some u := by
          rw [o2.cellAt _ (by omega)]; exact ⟨_, List.getElem?_eq_getElem (by rw [rowAt_length]; omega)⟩
        have hf2 := o2.frozenAt k
        have NB' := NB.out
        have MB' := MB.out
        have hne' : ¬ g2 = g1 := fun e => hne e.symm
        by_cases h4 : k < 4
        · obtain ⟨u1, hu1⟩ : ∃ u, wr.cell? ⟨g1, k, none⟩ = some u := by
            rw [o1.cellAt _ (by omega)]; exact ⟨_, List.getElem?_eq_getElem (by rw [rowAt_length]; omega)⟩
          have hf1 := o1.frozenAt k
          have O1 := Lib.hid o1
          have O2 := Lib.hid o2
          have HB := Lib.hid hb
          clear o1 o2 hb
          go_wp2_with fail
          go_roundw
          case rel =>
            rw [← byteLe_shift, ← byteLe_shift]
            refine ⟨k + 1, by omega, by go_num, ?_, ?_, ?_⟩
            · rw [show min (k + 1) 4 = k + 1 from by omega, rowAt_succ]
              have h := O1.out
              rw [show min k 4 = k from by omega] at h
              exact own_other_set (own_set h _ _) (by omega) _ _
            · rw [rowAt_succ]
              exact own_set (own_other_set O2.out (by omega) _ _) _ _
            · exact (HB.out.setCell (by have := (O1.out.lt g1 rfl).1; exact this) _).setCell (by have := (O2.out.lt g2 rfl).1; exact this) _
          case measure => simp [intOf]; omega
        · have O1 := Lib.hid o1
          have O2 := Lib.hid o2
          have HB := Lib.hid hb
          clear o1 o2 hb
          go_wp2_with fail
          go_roundw
          case rel =>
            rw [← byteLe_shift]
            refine ⟨k + 1, by omega, by go_num, ?_, ?_, ?_⟩
            · have h := O1.out
              rw [show min k 4 = min (k + 1) 4 from by omega] at h
              exact own_other_set h (by omega) _ _
            · rw [rowAt_succ]
              exact own_set O2.out _ _
            · exact HB.out.setCell (by have := (O2.out.lt g2 rfl).1; exact this) _
          case measure => simp [intOf]; omega
      · have hk8 : k = 8 := by omega
        subst hk8
        have e4 : rowAt id 4 n (min 8 4) = bytesC (b4 n) := rfl
        have e8 : rowAt id 8 m 8 = bytesC (b8 m) := rfl
        rw [e4] at o1
        rw [e8] at o2
        have O1 := Lib.hid o1
        have O2 := Lib.hid o2
        have HB := Lib.hid hb
        clear o1 o2 hb e4 e8
        go_wp2_with fail
        refine (implNumber_calls g1 0 4 kind (b4 n) wr ⟨hk0, hk1⟩ (b4_all n) rfl (own_cells O1.out)).mono ?_
        rintro e w1 ⟨rfl, hb1⟩
        rw [numOf_host kind _ HBIT.out, leV_b4 n NB.out]
        have O2b := Lib.hid (own_below O2.out hb1)
        have HB1 := Lib.hid (below_trans HB.out hb1)
        clear hb1
        go_wp2_with fail
        refine (implNumber64_calls g2 0 8 kind (b8 m) w1 ⟨hk0, hk1⟩ (b8_all m) rfl (own_cells O2b.out)).mono ?_
        rintro e w2 ⟨rfl, hb2⟩
        rw [numOf_host kind _ HBIT.out, leV_b8 m MB.out]
        have HB2 := Lib.hid (below_trans HB1.out hb2)
        clear hb2
        go_wp2_with (go_at_call 11; refine (works_calls _).mono ?_; rintro e w' ⟨rfl, rfl⟩)
        go_ret
        exact ⟨rfl, HB2.out⟩
set_option maxHeartbeats 4000000 in
set_option maxRecDepth 100000 in
theorem fnNumber_net (kind n m : Int) (w : World) (hk0 : 0 ≤ kind) (hk1 : kind < 65536) (hbit : kind / 16384 % 2 = 1) (hn : 0 ≤ n ∧ n < 4294967296) (hm : 0 ≤ m ∧ m < 18446744073709551616) :
    Calls Try.prog 5 #[.int .i64 kind, .int .u32 n, .int .u64 m] w fun e w' => e = .returned (.bool true) ∧ Below w.heap.size w w' := by
  have hmk4 : ∀ w, (Instr.makeSlice 31 (.int .i64 4) (.int .i64 4)).run Try.prog w = .ok (.slice (some ⟨w.heap.size, 0, none⟩) 4 4) (w.alloc (.cells #[.int .u8 0, .int .u8 0, .int .u8 0, .int .u8 0] 5)) := fun _ => by kernel_rfl
  have hmk8 : ∀ w, (Instr.makeSlice 31 (.int .i64 8) (.int .i64 8)).run Try.prog w = .ok (.slice (some ⟨w.heap.size, 0, none⟩) 8 8) (w.alloc (.cells #[.int .u8 0, .int .u8 0, .int .u8 0, .int .u8 0, .int .u8 0, .int .u8 0, .int .u8 0, .int .u8 0] 5)) := fun _ => by kernel_rfl
  have hand : bits BinOp.and IntKind.i64 kind 16384 = 16384 := by rw [and_bit14i kind hk0 hk1, hbit]; rfl
  have NB := Lib.hid hn
  have MB := Lib.hid hm
  have HBIT := Lib.hid hbit
  clear hbit
  go_enter Try.func5, Try.ntmps5
  go_upto_region 3 with (fail)
  go_cut [7, 8] (fun v7 v8 wc => ∃ g1 g2 : Nat, g1 ≠ g2 ∧ v7 = .slice (some ⟨g1, 0, none⟩) 4 4 ∧ v8 = .slice (some ⟨g2, 0, none⟩) 8 8 ∧ wc.ownsRow w.heap.size 5 1 (.slice (some ⟨g1, 0, none⟩) 4 4) 4 (rowAt (fun k => 3 - k) 4 n 0) ∧ wc.ownsRow w.heap.size 5 1 (.slice (some ⟨g2, 0, none⟩) 8 8) 8 (rowAt (fun k => 7 - k) 8 m 0) ∧ Below w.heap.size w wc)
  case first =>
    go_region
    all_goals go_wp2_with fail
    all_goals go_meet
    case rel =>
      have h := own_two w #[.int .u8 0, .int .u8 0, .int .u8 0, .int .u8 0] #[.int .u8 0, .int .u8 0, .int .u8 0, .int .u8 0, .int .u8 0, .int .u8 0, .int .u8 0, .int .u8 0] 5 4 8 rfl rfl (by decide) (by decide)
      exact ⟨w.heap.size, w.heap.size + 1, by omega, rfl, rfl, h.1, h.2, (below2 w _ _).drew⟩
    case rel =>
      have h := own_two w #[.int .u8 0, .int .u8 0, .int .u8 0, .int .u8 0, .int .u8 0, .int .u8 0, .int .u8 0, .int .u8 0] #[.int .u8 0, .int .u8 0, .int .u8 0, .int .u8 0] 5 8 4 rfl rfl (by decide) (by decide)
      exact ⟨w.heap.size + 1, w.heap.size, by omega, rfl, rfl, h.2, h.1, (below2 w _ _).drew⟩
  case rest =>
    obtain ⟨g1, g2, hne, rfl, rfl, o1, o2, hb⟩ := hcut
    have O1 := Lib.hid o1
    have O2 := Lib.hid o2
    have HB := Lib.hid hb
    clear o1 o2 hb hmk4 hmk8
    go_wp2_with fail
    go_loopw [27] (fun i wr => ∃ k : Nat, k ≤ 8 ∧ i = .int .i64 k ∧ wr.ownsRow w.heap.size 5 1 (.slice (some ⟨g1, 0, none⟩) 4 4) 4 (rowAt (fun k => 3 - k) 4 n (min k 4)) ∧ wr.ownsRow w.heap.size 5 1 (.slice (some ⟨g2, 0, none⟩) 8 8) 8 (rowAt (fun k => 7 - k) 8 m k) ∧ Below w.heap.size w wr) (fun i _ => 8 - (intOf i).toNat)
    case atStart => exact ⟨0, by omega, rfl, O1.out, O2.out, HB.out⟩
    case round =>
      obtain ⟨k, hk, rfl, o1, o2, hb⟩ := hrel
      clear O1 O2 HB
      by_cases hlt : k < 8
      · obtain ⟨u2, hu2⟩ : ∃ u, wr.cell? ⟨g2, 7 - k, none⟩ = some u := by
          rw [o2.cellAt _ (by omega)]; exact ⟨_, List.getElem?_eq_getElem (by rw [rowAt_length]; omega)⟩
        have hf2 := o2.frozenAt (7 - k)
        have NB' := NB.out
        have MB' := MB.out
        have hne' : ¬ g2 = g1 := fun e => hne e.symm
        by_cases h4 : k < 4
        · obtain ⟨u1, hu1⟩ : ∃ u, wr.cell? ⟨g1, 3 - k, none⟩ = some u := by
            rw [o1.cellAt _ (by omega)]; exact ⟨_, List.getElem?_eq_getElem (by rw [rowAt_length]; omega)⟩
          have hf1 := o1.frozenAt (3 - k)
          have O1 := Lib.hid o1
          have O2 := Lib.hid o2
          have HB := Lib.hid hb
          clear o1 o2 hb
          go_wp2_with fail
          go_roundw
          case rel =>
            rw [← byteLe_shift, ← byteLe_shift]
            refine ⟨k + 1, by omega, by go_num, ?_, ?_, ?_⟩
            · rw [show min (k + 1) 4 = k + 1 from by omega, rowAt_succ]
              have h := O1.out
              rw [show min k 4 = k from by omega] at h
              exact own_other_set (own_set h _ _) (by omega) _ _
            · rw [rowAt_succ]
              exact own_set (own_other_set O2.out (by omega) _ _) _ _
            · exact (HB.out.setCell (by have := (O1.out.lt g1 rfl).1; exact this) _).setCell (by have := (O2.out.lt g2 rfl).1; exact this) _
          case measure => simp [intOf]; omega
        · have O1 := Lib.hid o1
          have O2 := Lib.hid o2
          have HB := Lib.hid hb
          clear o1 o2 hb
          go_wp2_with fail
          go_roundw
          case rel =>
            rw [← byteLe_shift]
            refine ⟨k + 1, by omega, by go_num, ?_, ?_, ?_⟩
            · have h := O1.out
              rw [show min k 4 = min (k + 1) 4 from by omega] at h
              exact own_other_set h (by omega) _ _
            · rw [rowAt_succ]
              exact own_set O2.out _ _
            · exact HB.out.setCell (by have := (O2.out.lt g2 rfl).1; exact this) _
          case measure => simp [intOf]; omega
      · have hk8 : k = 8 := by omega
        subst hk8
        have e4 : rowAt (fun k => 3 - k) 4 n (min 8 4) = bytesC (b4 n).reverse := rfl
        have e8 : rowAt (fun k => 7 - k) 8 m 8 = bytesC (b8 m).reverse := rfl
        rw [e4] at o1
        rw [e8] at o2
        have O1 := Lib.hid o1
        have O2 := Lib.hid o2
        have HB := Lib.hid hb
        clear o1 o2 hb e4 e8
        go_wp2_with fail
        refine (implNumber_calls g1 0 4 kind (b4 n).reverse wr ⟨hk0, hk1⟩ (rev_all (b4_all n)) rfl (own_cells O1.out)).mono ?_
        rintro e w1 ⟨rfl, hb1⟩
        rw [numOf_net kind _ HBIT.out, List.reverse_reverse, leV_b4 n NB.out]
        have O2b := Lib.hid (own_below O2.out hb1)
        have HB1 := Lib.hid (below_trans HB.out hb1)
        clear hb1
        go_wp2_with fail
        refine (implNumber64_calls g2 0 8 kind (b8 m).reverse w1 ⟨hk0, hk1⟩ (rev_all (b8_all m)) rfl (own_cells O2b.out)).mono ?_
        rintro e w2 ⟨rfl, hb2⟩
        rw [numOf_net kind _ HBIT.out, List.reverse_reverse, leV_b8 m MB.out]
        have HB2 := Lib.hid (below_trans HB1.out hb2)
        clear hb2
        go_wp2_with (go_at_call 11; refine (works_calls _).mono ?_; rintro e w' ⟨rfl, rfl⟩)
        go_ret
        exact ⟨rfl, HB2.out⟩
end Go.Proofs.Ytbogknjgjbhagaa
