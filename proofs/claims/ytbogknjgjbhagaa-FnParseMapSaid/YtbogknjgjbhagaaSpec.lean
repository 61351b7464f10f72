/- The reference's own bytes: a number's, the lowest first; noughts up to a multiple of four. -/
import Derived.Test.YtbogknjgjbhagaaTry
import Derived.Test.YtbogknjgjbhagaaLe
import Derived.Test.YtbogknjgjbhagaaLab3
import Derived.ArgAppend
import Derived.Deep.Upon
namespace Go.Proofs.Ytbogknjgjbhagaa
open Go.RowKit

def lowB (v : Int) (k : Nat) : List Int := (List.range k).map (byteLe v)
@[simp] theorem lowB_length (v : Int) (k : Nat) : (lowB v k).length = k := by simp [lowB]
theorem lowB_succ (v : Int) (k : Nat) : lowB v (k + 1) = lowB v k ++ [byteLe v k] := by simp [lowB, List.range_succ]
theorem lowB_all (v : Int) (k : Nat) : AllB (lowB v k) := by
  intro x hx
  simp only [lowB, List.mem_map] at hx
  obtain ⟨i, -, rfl⟩ := hx
  unfold byteLe
  omega

def padN (n : Nat) : Nat := (4 - n % 4) % 4
def pad (l : List Int) : List Int := l ++ List.replicate (padN l.length) 0
theorem pad_length (l : List Int) : (pad l).length = (l.length + 3) / 4 * 4 := by simp [pad, padN]; omega

set_option maxHeartbeats 1000000 in
set_option maxRecDepth 100000 in
theorem low_calls (v : Int) (k : Nat) (ki : Int) (w : World) (hki : ki = (k : Int)) (h8 : k ≤ 8) (h0 : 0 < k) :
    Calls Try.prog 63 #[.int .u64 v, .int .i64 ki] w fun e w' => ∃ v', e = .returned v' ∧ w'.ownsRow w.heap.size 5 1 v' k (bytesC (lowB v k)) ∧ Below w.heap.size w w' := by
  subst hki
  obtain ⟨i0, hi, hz0, hz1, hz2⟩ := info_parts Try.info5
  go_enter Try.func63, Try.ntmps63
  go_wp2_with (at_make; go_must (refine wpList_make_full _ rfl _ _ 31 rfl w.heap.size 5 i0 (.int .u8 0) 1 Try.underlying31 hi hz0 hz1 .i64 .i64 _ _ k rfl rfl (by omega) (by omega) (by rw [hz2]; omega) (by unfold maxLen; omega) (Nat.le_refl _) ?_))
  intro w1 hown hgrow
  have hb1 : Below w.heap.size w w1 := (Below.refl _ w).grown hgrow (Nat.le_refl _) (by intro k hk; cases hk)
  have hown0 : w1.ownsRow w.heap.size 5 1 (.slice (some ⟨w.heap.size, 0, none⟩) k k) k (bytesC (lowB v 0) ++ List.replicate (k - 0) (.int .u8 0)) := by
    rw [toList_madeCells_one] at hown
    simpa [lowB, bytesC] using hown
  have HO0 := Lib.hid hown0
  have HB0 := Lib.hid hb1
  clear hown hown0 hgrow hb1
  go_wp2
  go_loopw [11] (fun i wr => ∃ m : Nat, m ≤ k ∧ i = .int .i64 m ∧ wr.ownsRow w.heap.size 5 1 (.slice (some ⟨w.heap.size, 0, none⟩) k k) k (bytesC (lowB v m) ++ List.replicate (k - m) (.int .u8 0)) ∧ Below w.heap.size w wr)
    (fun i _ => k - (intOf i).toNat)
  case atStart => exact ⟨0, Nat.zero_le _, rfl, HO0.out, HB0.out⟩
  case round =>
    obtain ⟨m, hm, rfl, hown, hb⟩ := hrel
    clear HO0 HB0
    by_cases hlt : m < k
    · obtain ⟨u, hu⟩ : ∃ u, wr.cell? ⟨w.heap.size, m, none⟩ = some u := by
        rw [hown.cellAt _ (by omega)]; exact ⟨_, List.getElem?_eq_getElem (by simp; omega)⟩
      have hf := hown.frozenAt m
      have HO := Lib.hid hown
      have HB := Lib.hid hb
      clear hown hb
      go_wp2_with fail
      go_roundw
      case rel =>
        rw [← byteLe_shift]
        refine ⟨m + 1, by omega, by go_num, ?_, HB.out.setCell (Nat.le_refl _) _⟩
        have h := own_set HO.out m (.int .u8 (byteLe v m))
        have e : (bytesC (lowB v m) ++ List.replicate (k - m) (Value.int .u8 0)).set m (.int .u8 (byteLe v m)) = bytesC (lowB v (m + 1)) ++ List.replicate (k - (m + 1)) (.int .u8 0) := by
          rw [List.set_append_right _ _ (by simp), show k - m = (k - (m + 1)) + 1 from by omega, List.replicate_succ]
          simp [lowB_succ, bytesC]
        rw [e] at h
        exact h
      case measure => simp [intOf]; omega
    · have hmk : m = k := by omega
      subst hmk
      have HO := Lib.hid hown
      have HB := Lib.hid hb
      clear hown hb
      go_wp2_with fail
      go_ret
      exact ⟨_, rfl, by simpa using HO.out, HB.out⟩

set_option maxHeartbeats 1000000 in
set_option maxRecDepth 100000 in
theorem padded_calls (base : Nat) (A : Option Addr) (n c : Nat) (l : List Int) (w : World) (hown : w.ownsRow base 5 1 (.slice A n c) n (bytesC l)) (hbase : base ≤ w.heap.size) (hbig : n ≤ 1000000000) :
    Calls Try.prog 62 #[.slice A n c] w fun e w' => ∃ v', e = .returned v' ∧ w'.ownsRow base 5 1 v' (pad l).length (bytesC (pad l)) ∧ Below base w w' := by
  obtain ⟨i0, hi, hz0, hz1, hz2⟩ := info_parts Try.info5
  have hl : l.length = n := by simpa using hown.1
  have HO0 := Lib.hid hown
  clear hown
  go_enter Try.func62, Try.ntmps62
  go_wp2_with fail
  go_loopw [0] (fun s wr => ∃ k c', ∃ A', k ≤ padN n ∧ s = .slice A' (n + k) c' ∧ wr.ownsRow base 5 1 s (n + k) (bytesC (l ++ List.replicate k 0)) ∧ Below base w wr) (fun s _ => padN n - (lenVal s - n))
  case atStart => exact ⟨0, c, A, by omega, rfl, by simpa using HO0.out, Below.refl _ _⟩
  case round =>
    obtain ⟨k, c', A', hk, rfl, hown, hb⟩ := hrel
    clear HO0
    have HO := Lib.hid hown
    have HB := Lib.hid hb
    have hbs := hb.size
    clear hown hb
    by_cases hlt : k < padN n
    · have hrem : ¬ ((n + k) % 4 = 0) := by unfold padN at *; omega
      go_wp2_with (at_builtin; go_must (refine wpList_append_own _ rfl _ _ 31 rfl base 5 i0 (.int .u8 0) 1 1 Try.underlying31 hi hz0 hz1 hz2 rfl (by decide) _ _ _ rfl (by exact HO.out.alloc _) ⟨wr.heap.size, 0, none⟩ 1 1 [.int .u8 0] rfl rfl (by exact cell_one_new _ _ _) (by intro u hu; simp at hu; subst hu; rfl) (by unfold maxLen padN at *; omega) (by unfold padN at *; omega) (by simp; omega) ?_))
      intro v' w3 hown' hgrow _
      obtain ⟨A3, c3, rfl, -, -, -⟩ := Rd.of_own hown'
      have B2 : Below base w w3 := (HB.out.alloc (by omega) (.cells #[.int .u8 0] 5)).grown hgrow (by simp; omega) (fun q hq => (HO.out.lt q hq).1)
      have HR := Lib.hid hown'
      have HB2 := Lib.hid B2
      clear hown' hgrow B2
      go_wp2
      go_roundw
      case rel =>
        refine ⟨k + 1, c3, A3, by omega, by rw [Nat.add_assoc], ?_, HB2.out⟩
        rw [List.replicate_succ', ← List.append_assoc, bytesC, List.map_append]
        exact HR.out
      case measure => simp [lenVal]; omega
    · have hkp : k = padN n := by omega
      subst hkp
      have hrem : (n + padN n) % 4 = 0 := by unfold padN; omega
      go_wp2_with fail
      go_ret
      have e : (pad l).length = n + padN n := by simp [pad, hl]
      have e2 : pad l = l ++ List.replicate (padN n) 0 := by rw [pad, hl]
      refine ⟨_, rfl, ?_, HB.out⟩
      rw [e, e2]
      exact HO.out

/-- An append whose run is known. -/
theorem wp_app {P : Program} {o : Oper} {a : Act} {w : World} {K : Act → World → Prop} {Q : Exit → Act → World → Prop} (s x : Operand) (t : TypeId) {v y v' : Value} {w' : World}
    (ho : o.op = .call { callee := .builtin .append, args := #[s, x], argTypes := #[t, t] }) (hs : a.eval s = v) (hx : a.eval x = y)
    (hr : (Builtin.append_ #[t, t] o.type #[v, y]).run P w = .ok v' w') (h : K (a.put o.dst v') w') : o.wp P a w K Q := by
  unfold Oper.wp execOp
  simp only [ho, resolve, invoke, builtin, Sem.run_bind, Sem.run_pure, Result.andThen_ok, List.map_toArray, List.map_cons, List.map_nil, hs, hx, hr]
  exact h
theorem wpList_app {P : Program} {o : Oper} {ops : Array Oper} {rest : List Oper} {a : Act} {w : World} {Q : Exit → Act → World → Prop} (hgd : o.guard = none) (s x : Operand) (t : TypeId) {v y v' : Value} {w' : World}
    (ho : o.op = .call { callee := .builtin .append, args := #[s, x], argTypes := #[t, t] }) (hs : a.eval s = v) (hx : a.eval x = y)
    (hr : (Builtin.append_ #[t, t] o.type #[v, y]).run P w = .ok v' w') (h : wpList P ops Q rest (a.put o.dst v') w') : wpList P ops Q (o :: rest) a w :=
  wpList_plain hgd fun _ hK => wp_app s x t ho hs hx hr (hK _ _ h)

theorem bytesC_ne {ys : List Int} (h : 0 < ys.length) : bytesC ys ≠ [] := fun e => by
  have := congrArg List.length e
  rw [bytesC_length, List.length_nil] at this
  omega

/-- Bytes behind a row of one's own, wherever they lie. -/
theorem app_own (base : Nat) (A0 : Option Addr) (n c0 : Nat) (l : List Int) (A : Option Addr) (m c : Nat) (ys : List Int) (w : World) (hown : w.ownsRow base 5 1 (.slice A0 n c0) n (bytesC l)) (hr : Rd w A (bytesC ys)) (hm : ys.length = m)
    (hA : A = none → m = 0) (hbig : n + m ≤ 1000000000) (hbase : base ≤ w.heap.size) :
    ∃ A' c' w', (Builtin.append_ #[31, 31] 31 #[.slice A0 n c0, .slice A m c]).run Try.prog w = .ok (.slice A' (n + m) c') w' ∧ w'.ownsRow base 5 1 (.slice A' (n + m) c') (n + m) (bytesC (l ++ ys)) ∧ Below base w w' := by
  obtain ⟨i0, hi, hz0, hz1, hz2⟩ := info_parts Try.info5
  cases A with
  | none =>
    obtain rfl := hA rfl
    obtain rfl : ys = [] := List.eq_nil_of_length_eq_zero hm
    obtain ⟨A1, c1, e, h1, -, -⟩ := Rd.of_own hown
    have hc : n ≤ c0 := by injection e with _ _ e3; omega
    refine ⟨A0, c0, w, run_append_nothing (P := Try.prog) w 31 31 31 5 i0 Try.underlying31 hi A0 n c0 hc _ ⟨.inl ⟨5, Try.underlying31⟩, fun _ => rfl, by rw [hz1]; exact run_firstCells_none w _ _ _ _, by rw [hz1]; exact run_firstCells_none w.drew _ _ _ _, by simp, fun _ h => by cases h⟩, by simpa using hown, Below.refl _ _⟩
  | some ad =>
    obtain ⟨v', w', h1, h2, h3, -⟩ := run_append_own (P := Try.prog) w base 31 31 5 i0 (.int .u8 0) 1 1 Try.underlying31 hi hz0 hz1 hz2 rfl (by decide) _ n (bytesC l) hown ad m c (bytesC ys) (by simp [hm]) (fun j u hj => by
      obtain ⟨b, o, e, hc⟩ := hr (by rintro h; rw [h] at hj; simp at hj)
      obtain rfl := Option.some.inj e
      rw [Addr.add_lit]
      exact hc j u hj) (bytesC_one _) (by unfold maxLen; omega) (by omega) hbase
    obtain ⟨A', c', rfl, -, -, -⟩ := Rd.of_own h2
    refine ⟨A', c', w', h1, by simpa [bytesC] using h2, (Below.refl _ _).grown h3 hbase (fun k hk => (hown.lt k hk).1)⟩

/-- Bytes behind a slice that is full. -/
theorem app_full (A0 : Option Addr) (n : Nat) (l : List Int) (A : Option Addr) (m c : Nat) (ys : List Int) (w : World) (h0 : Rd w A0 (bytesC l)) (hl : l.length = n) (hA0 : A0 = none → n = 0) (hr : Rd w A (bytesC ys)) (hm : ys.length = m)
    (hpos : 0 < m) (hbig : n + m ≤ 1000000000) :
    ∃ A' c' w', (Builtin.append_ #[31, 31] 31 #[.slice A0 n n, .slice A m c]).run Try.prog w = .ok (.slice A' (n + m) c') w' ∧ w'.ownsRow w.heap.size 5 1 (.slice A' (n + m) c') (n + m) (bytesC (l ++ ys)) ∧ Below w.heap.size w w' := by
  obtain ⟨i0, hi, hz0, hz1, hz2⟩ := info_parts Try.info5
  cases A0 with
  | none =>
    obtain rfl := hA0 rfl
    obtain rfl : l = [] := List.eq_nil_of_length_eq_zero hl
    exact app_own w.heap.size none 0 0 [] A m c ys w (World.ownsRow_nil _ _ _ _) hr hm (by rintro rfl; obtain ⟨b, o, e, -⟩ := hr (bytesC_ne (by omega)); cases e) hbig (Nat.le_refl _)
  | some b0 =>
    obtain ⟨b, o, rfl, hc⟩ := hr (bytesC_ne (by omega))
    obtain ⟨v', w', h1, h2, h3⟩ := run_append_arg_grows (P := Try.prog) w 31 31 5 i0 (.int .u8 0) 1 1 Try.underlying31 hi hz0 hz1 hz2 rfl (by decide) b0 n n (bytesC l) (by simp [hl]) (fun j u hj => by
      obtain ⟨b, o, e, hc⟩ := h0 (by rintro h; rw [h] at hj; simp at hj)
      obtain rfl := Option.some.inj e
      rw [Addr.add_lit]
      exact hc j u hj) ⟨b, o, none⟩ m c (bytesC ys) (by simp [hm]) (fun j u hj => by rw [Addr.add_lit]; exact hc j u hj) (by omega) (by unfold maxLen; omega) (by omega)
    obtain ⟨A', c', rfl, -, -, -⟩ := Rd.of_own h2
    refine ⟨A', c', w', h1, by simpa [bytesC] using h2, (Below.refl _ _).grown h3 (Nat.le_refl _) (by intro k hk; cases hk)⟩

inductive Tree where
  | node (t : Int) (d : List Int) (ks : List Tree) : Tree

mutual
def attrB : Tree → List Int
  | .node t d ks => pad (lowB ((d ++ attrsB ks).length + 4 : Nat) 2 ++ lowB t 2 ++ (d ++ attrsB ks))
def attrsB : List Tree → List Int
  | [] => []
  | x :: r => attrB x ++ attrsB r
end
/-- A slice's bytes. -/
def BytesAt (w : World) (v : Value) (d : List Int) : Prop := ∃ A c, v = .slice A d.length c ∧ d.length ≤ c ∧ Rd w A (bytesC d) ∧ (A = none → d = [])
mutual
def TreeAt (w : World) : Value → Value → Value → Tree → Prop
  | a, b, c, .node t d ks => a = .int .i64 t ∧ 0 ≤ t ∧ t < 9223372036854775808 ∧ AllB d ∧ BytesAt w b d ∧ ∃ A n, c = .slice A ks.length n ∧ ks.length ≤ n ∧ (ks ≠ [] → ∃ bb o, A = some ⟨bb, o, none⟩ ∧ TreesAt w bb o ks)
def TreesAt (w : World) : Nat → Nat → List Tree → Prop
  | _, _, [] => True
  | bb, o, x :: r => (∃ a b c, w.cell? ⟨bb, o, none⟩ = some a ∧ w.cell? ⟨bb, o + 1, none⟩ = some b ∧ w.cell? ⟨bb, o + 2, none⟩ = some c ∧ TreeAt w a b c x) ∧ TreesAt w bb (o + 3) r
end
theorem BytesAt.below {w w1 : World} {v : Value} {d : List Int} (h : BytesAt w v d) (hb : Below w.heap.size w w1) : BytesAt w1 v d := by
  obtain ⟨A, c, h1, h2, h3, h4⟩ := h
  exact ⟨A, c, h1, h2, h3.below hb, h4⟩
mutual
theorem TreeAt.below {w w1 : World} (hb : Below w.heap.size w w1) : ∀ (T : Tree) (a b c : Value), TreeAt w a b c T → TreeAt w1 a b c T
  | .node t d ks, a, b, c, h => by
    simp only [TreeAt] at h ⊢
    obtain ⟨h1, h2, h3, h4, h5, A, n, h6, h7, h8⟩ := h
    refine ⟨h1, h2, h3, h4, h5.below hb, A, n, h6, h7, fun hk => ?_⟩
    obtain ⟨bb, o, e, hh⟩ := h8 hk
    exact ⟨bb, o, e, TreesAt.below hb ks bb o hh⟩
theorem TreesAt.below {w w1 : World} (hb : Below w.heap.size w w1) : ∀ (l : List Tree) (bb o : Nat), TreesAt w bb o l → TreesAt w1 bb o l
  | [], _, _, _ => by simp only [TreesAt]
  | x :: r, bb, o, h => by
    simp only [TreesAt] at h ⊢
    obtain ⟨⟨a, b, c, h1, h2, h3, h4⟩, h5⟩ := h
    refine ⟨⟨a, b, c, ?_, ?_, ?_, TreeAt.below hb x a b c h4⟩, TreesAt.below hb r bb (o + 3) h5⟩
    · rw [hb.cell (World.block_lt_of_cell? w _ h1)]; exact h1
    · rw [hb.cell (World.block_lt_of_cell? w _ h2)]; exact h2
    · rw [hb.cell (World.block_lt_of_cell? w _ h3)]; exact h3
end
theorem TreesAt.get {w : World} : ∀ (l : List Tree) (bb o k : Nat) (h : k < l.length), TreesAt w bb o l → ∃ a b c, w.cell? ⟨bb, o + k * 3, none⟩ = some a ∧ w.cell? ⟨bb, o + k * 3 + 1, none⟩ = some b ∧ w.cell? ⟨bb, o + k * 3 + 2, none⟩ = some c ∧ TreeAt w a b c l[k]
  | x :: r, bb, o, 0, _, h => by simp only [TreesAt] at h; exact h.1
  | x :: r, bb, o, k + 1, hk, h => by
    simp only [TreesAt] at h
    have := TreesAt.get r bb (o + 3) k (by simpa using hk) h.2
    rw [show o + (k + 1) * 3 = o + 3 + k * 3 from by omega]
    exact this
theorem attrsB_append (a b : List Tree) : attrsB (a ++ b) = attrsB a ++ attrsB b := by
  induction a with
  | nil => simp [attrsB]
  | cons x r ih => simp [attrsB, ih]
theorem attrsB_take_le (l : List Tree) (k : Nat) : (attrsB (l.take k)).length ≤ (attrsB l).length := by
  have : attrsB l = attrsB (l.take k) ++ attrsB (l.drop k) := by rw [← attrsB_append, List.take_append_drop]
  rw [this]; simp
theorem attrsB_mem_le : ∀ (l : List Tree) (x : Tree), x ∈ l → (attrB x).length ≤ (attrsB l).length := by
  intro l
  induction l with
  | nil => intro x h; cases h
  | cons y r ih =>
    intro x h
    rw [attrsB]
    rcases List.mem_cons.1 h with rfl | h
    · simp
    · have := ih x h; simp; omega
theorem attrB_len (t : Int) (d : List Int) (ks : List Tree) : (attrB (.node t d ks)).length = (d.length + (attrsB ks).length + 7) / 4 * 4 := by
  rw [attrB, pad_length]; simp; omega
end Go.Proofs.Ytbogknjgjbhagaa
