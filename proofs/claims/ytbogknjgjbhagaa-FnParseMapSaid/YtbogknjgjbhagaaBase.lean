/- Contracts of the small functions that every statement reaches: lengths rounded up, slices copied. Each holds in whatever world the call is made; what a slice's cells hold is asked of the world of the call. -/
import Derived.Test.YtbogknjgjbhagaaProg
import Derived.Test.YtbogknjgjbhagaaBits
import Derived.WalkKit
import Derived.WalkSpells
import Derived.WalkLawsBesides
import Derived.Handy
import Derived.Lib.Hide
import Derived.Lib.SliceRun
import Derived.Lib.Walk
import Derived.Deep.LoopGhost
import Derived.Deep.DeepMust
namespace Go.Proofs.Ytbogknjgjbhagaa
open Go.RowKit

/-- What a slice's first cells hold. -/
def Rd (w : World) (A : Option Addr) (cs : List Value) : Prop := cs ≠ [] → ∃ b o, A = some ⟨b, o, none⟩ ∧ ∀ j u, cs[j]? = some u → w.cell? ⟨b, o + j, none⟩ = some u

theorem Rd.nil (w : World) (A : Option Addr) : Rd w A [] := fun h => absurd rfl h

theorem Rd.below {w w1 : World} {A : Option Addr} {cs : List Value} (h : Rd w A cs) (hb : Below w.heap.size w w1) : Rd w1 A cs := by
  intro hne
  obtain ⟨b, o, rfl, hc⟩ := h hne
  refine ⟨b, o, rfl, fun j u hj => ?_⟩
  have h1 := hc j u hj
  rw [hb.cell (World.block_lt_of_cell? w _ h1)]
  exact h1

theorem Rd.of_own {w : World} {base : Nat} {e : TypeId} {size : Nat} {v : Value} {n : Nat} {cs : List Value} (h : w.ownsRow base e size v n cs) :
    ∃ A c, v = .slice A n c ∧ n ≤ c ∧ Rd w A cs ∧ (A = none → n = 0 ∧ c = 0) := by
  rcases h.2 with ⟨rfl, rfl⟩ | ⟨g, cap, cur, rfl, hb, hg, hnc, _⟩
  · refine ⟨none, 0, rfl, Nat.le_refl _, ?_, fun _ => ⟨rfl, rfl⟩⟩
    have : cs = [] := List.eq_nil_of_length_eq_zero (by simpa using h.1)
    subst this
    exact Rd.nil _ _
  · refine ⟨_, cap, rfl, hnc, fun _ => ⟨_, _, rfl, fun j u hj => ?_⟩, fun h => by cases h⟩
    have := h.cells (g := g) (by simp [Value.ownBlock]) j u hj
    rwa [Addr.add_lit] at this

/-- A part of it, from i on. -/
theorem Rd.drop {w : World} {b o : Nat} {cs : List Value} (h : ∀ j u, cs[j]? = some u → w.cell? ⟨b, o + j, none⟩ = some u) (i : Nat) : ∀ j u, (cs.drop i)[j]? = some u → w.cell? ⟨b, o + i + j, none⟩ = some u := by
  intro j u hj
  rw [List.getElem?_drop] at hj
  rw [Nat.add_assoc]
  exact h _ _ hj

theorem own_below {w w1 : World} {base : Nat} {e : TypeId} {size : Nat} {v : Value} {n : Nat} {cs : List Value} (h : w.ownsRow base e size v n cs) (hb : Below w.heap.size w w1) : w1.ownsRow base e size v n cs :=
  h.kept (row := none) ⟨hb.os, hb.tape, hb.output, hb.size, fun k hk _ => hb.block k hk⟩ (by cases v.ownBlock <;> simp)

theorem own_lower {w : World} {base base' : Nat} {e : TypeId} {size : Nat} {v : Value} {n : Nat} {cs : List Value} (h : w.ownsRow base e size v n cs) (hb : base' ≤ base) : w.ownsRow base' e size v n cs := by
  obtain ⟨h1, h2⟩ := h
  refine ⟨h1, ?_⟩
  rcases h2 with h2 | ⟨g, cap, cur, rfl, hg, r⟩
  · exact .inl h2
  · exact .inr ⟨g, cap, cur, rfl, Nat.le_trans hb hg, r⟩

theorem grown_trans {a b c : World} {row : Option Nat} (h : a.grownBy b row) (k : b.grownBy c row) : a.grownBy c row :=
  ⟨k.os.trans h.os, k.tape.trans h.tape, k.output.trans h.output, Nat.le_trans h.size k.size, fun i hi hne => (k.block i (Nat.lt_of_lt_of_le hi h.size) hne).trans (h.block i hi hne)⟩

theorem below_trans {w W W1 : World} (h : Below w.heap.size w W) (k : Below W.heap.size W W1) : Below w.heap.size w W1 := h.trans (k.mono h.size)

/-- A store into an owned row. -/
theorem own_set {w : World} {base : Nat} {e : TypeId} {size g N cap : Nat} {xs : List Value} (h : w.ownsRow base e size (.slice (some ⟨g, 0, none⟩) N cap) N xs) (j : Nat) (u : Value) :
    (w.setCell ⟨g, j, none⟩ u).ownsRow base e size (.slice (some ⟨g, 0, none⟩) N cap) N (xs.set j u) := (h.stored j u).1

/-- Bytes, and whole numbers, as cells. -/
def bytesC (l : List Int) : List Value := l.map (Value.int .u8)
def intsC (l : List Int) : List Value := l.map (Value.int .i64)

theorem bytesC_one (l : List Int) : ∀ u ∈ bytesC l, u.oneCell' = true := ints_oneCell _ _
theorem intsC_one (l : List Int) : ∀ u ∈ intsC l, u.oneCell' = true := ints_oneCell _ _
@[simp] theorem bytesC_length (l : List Int) : (bytesC l).length = l.length := by simp [bytesC]
@[simp] theorem intsC_length (l : List Int) : (intsC l).length = l.length := by simp [intsC]

theorem Try.info5 : (Try.prog.info? 5).map (fun i => (i.zero, i.size, i.bytes)) = some (some (.int .u8 0), 1, 1) := by kernel_rfl
theorem Try.info3 : (Try.prog.info? 3).map (fun i => (i.zero, i.size, i.bytes)) = some (some (.int .i64 0), 1, 8) := by kernel_rfl

theorem works_calls (w : World) : Calls Try.prog 11 #[] w fun e w' => e = .returned (.bool true) ∧ w = w' := by
  have e8 : bits BinOp.and IntKind.i64 8 (-4) = 8 := by decide
  go_enter Try.func11, Try.ntmps11
  go_wp2
  go_ret
  exact ⟨rfl, rfl⟩

/-- slices.Clone at []byte: a copy in memory of its own; nil of nil. -/
theorem clone_bytes (A : Option Addr) (n c : Nat) (cs : List Value) (w : World) (hr : Rd w A cs) (hl : cs.length = n) (hbig : n ≤ 140737488355328) (h1 : ∀ u ∈ cs, u.oneCell' = true) (hA : A = none → n = 0) :
    Calls Try.prog 45 #[.slice A n c] w fun e w' => ∃ v', e = .returned v' ∧ w'.ownsRow w.heap.size 5 1 v' n cs ∧ (v' = .slice none 0 0 ↔ A = none) ∧ Below w.heap.size w w' := by
  obtain ⟨i0, hi, hz0, hz1, hz2⟩ := info_parts Try.info5
  have q31 : ∀ (w : World) (a : Option Addr) (n c n' c' : Nat), (binOp .eql 31 (.slice a n c) (.slice none n' c')).run Try.prog w = .ok (.bool a.isNone) w := fun w a n c n' c' => Lib.run_eql_slice_nil w _ _ a n c n' c' Try.underlying31
  cases A with
  | none =>
    obtain rfl := hA rfl
    have hcs : cs = [] := List.eq_nil_of_length_eq_zero hl
    subst hcs
    go_enter Try.func45, Try.ntmps45
    go_wp2
    go_ret
    exact ⟨_, rfl, World.ownsRow_nil _ _ _ _, by simp, Below.refl _ _⟩
  | some ad =>
    have HR := Lib.hid hr
    clear hr hA
    go_enter Try.func45, Try.ntmps45
    go_wp2_with (at_builtin; refine wpList_append_own _ rfl _ _ 31 rfl w.heap.size 5 i0 (.int .u8 0) 1 1 Try.underlying31 hi hz0 hz1 hz2 rfl (by decide) _ _ _ rfl (World.ownsRow_made w #[] 0 (Nat.le_refl _) (Nat.zero_le _) rfl) ad n c cs rfl ?qc1 ?qc2 ?qc3 ?qc4 ?qc5 ?qc6 ?_)
    case qc1 => simp; omega
    case qc2 =>
      intro j u hj
      obtain ⟨b, o, e, hc⟩ := HR.out (by rintro rfl; simp at hj)
      obtain rfl := Option.some.inj e
      rw [Addr.add_lit]
      exact Lib.cell?_alloc_some _ (hc j u hj)
    case qc3 => exact h1
    case qc4 => unfold maxLen; omega
    case qc5 => omega
    case qc6 => simp
    intro v' w1 hown hgrow hnil
    go_wp2
    go_ret
    refine ⟨v', rfl, by simpa using hown, ?_, ?_⟩
    · exact ⟨fun e => absurd e hnil, fun e => by cases e⟩
    · exact ((Below.refl _ w).alloc (Nat.le_refl _) _).grown hgrow (by simp) (by intro k hk; simp [Value.ownBlock] at hk; omega)

/-- slices.Clone at []int: a copy in memory of its own; nil of nil. -/
theorem clone_ints (A : Option Addr) (n c : Nat) (cs : List Value) (w : World) (hr : Rd w A cs) (hl : cs.length = n) (hbig : n * 8 ≤ 140737488355328) (h1 : ∀ u ∈ cs, u.oneCell' = true) (hA : A = none → n = 0) :
    Calls Try.prog 43 #[.slice A n c] w fun e w' => ∃ v', e = .returned v' ∧ w'.ownsRow w.heap.size 3 1 v' n cs ∧ (v' = .slice none 0 0 ↔ A = none) ∧ Below w.heap.size w w' := by
  obtain ⟨i0, hi, hz0, hz1, hz2⟩ := info_parts Try.info3
  have q30 : ∀ (w : World) (a : Option Addr) (n c n' c' : Nat), (binOp .eql 30 (.slice a n c) (.slice none n' c')).run Try.prog w = .ok (.bool a.isNone) w := fun w a n c n' c' => Lib.run_eql_slice_nil w _ _ a n c n' c' Try.underlying30
  cases A with
  | none =>
    obtain rfl := hA rfl
    have hcs : cs = [] := List.eq_nil_of_length_eq_zero hl
    subst hcs
    go_enter Try.func43, Try.ntmps43
    go_wp2
    go_ret
    exact ⟨_, rfl, World.ownsRow_nil _ _ _ _, by simp, Below.refl _ _⟩
  | some ad =>
    have HR := Lib.hid hr
    clear hr hA
    go_enter Try.func43, Try.ntmps43
    go_wp2_with (at_builtin; refine wpList_append_own _ rfl _ _ 30 rfl w.heap.size 3 i0 (.int .i64 0) 1 8 Try.underlying30 hi hz0 hz1 hz2 rfl (by decide) _ _ _ rfl (World.ownsRow_made w #[] 0 (Nat.le_refl _) (Nat.zero_le _) rfl) ad n c cs rfl ?qc1 ?qc2 ?qc3 ?qc4 ?qc5 ?qc6 ?_)
    case qc1 => simp; omega
    case qc2 =>
      intro j u hj
      obtain ⟨b, o, e, hc⟩ := HR.out (by rintro rfl; simp at hj)
      obtain rfl := Option.some.inj e
      rw [Addr.add_lit]
      exact Lib.cell?_alloc_some _ (hc j u hj)
    case qc3 => exact h1
    case qc4 => unfold maxLen; omega
    case qc5 => omega
    case qc6 => simp
    intro v' w1 hown hgrow hnil
    go_wp2
    go_ret
    refine ⟨v', rfl, by simpa using hown, ?_, ?_⟩
    · exact ⟨fun e => absurd e hnil, fun e => by cases e⟩
    · exact ((Below.refl _ w).alloc (Nat.le_refl _) _).grown hgrow (by simp) (by intro k hk; simp [Value.ownBlock] at hk; omega)

end Go.Proofs.Ytbogknjgjbhagaa
