/- Lists of records of a whole number and of bytes, as they lie in memory. -/
import Derived.Test.YtbogknjgjbhagaaSpec2
import Derived.WalkSmall
namespace Go.Proofs.Ytbogknjgjbhagaa
open Go.RowKit

theorem Try.info74 : (Try.prog.info? 74).map (fun i => (i.zero, i.size, i.bytes)) = some (some (.agg #[.int .i64 0, .slice none 0 0]), 2, 32) := by kernel_rfl
theorem Try.info52 : (Try.prog.info? 52).map (fun i => (i.zero, i.size, i.bytes)) = some (some (.agg #[.int .i64 0, .slice none 0 0]), 2, 32) := by kernel_rfl
theorem Try.info80 : (Try.prog.info? 80).map (fun i => (i.zero, i.size, i.bytes)) = some (some (.agg #[.int .u16 0, .slice none 0 0]), 2, 32) := by kernel_rfl

theorem conv_all (v : Value) (d : List Int) (w : World) (h : BytesAt w v d) : (convert 31 9 v).run Try.prog w = .ok (.string (strOfNums d)) w := by
  obtain ⟨A, c, rfl, hc, hr, hA⟩ := h
  by_cases h0 : 0 < d.length
  · obtain ⟨b, o, rfl, hc⟩ := hr (bytesC_ne h0)
    exact run_convert_bytes_arg w 31 5 Try.underlying31 Try.underlying5 b o d.length c d rfl (fun i hi => by
      rw [hc i (.int .u8 (d.getD i 0)) (by simp [bytesC, List.getD_eq_getElem?_getD, List.getElem?_eq_getElem hi])]) 9 Try.underlying9
  · obtain rfl : d = [] := List.eq_nil_of_length_eq_zero (by omega)
    have e : strOfNums [] = ByteArray.empty := rfl
    rw [e]
    cases A with
    | none => exact run_convert_bytes_nil w 31 5 Try.underlying31 Try.underlying5 _ _ 9 Try.underlying9
    | some a =>
      rw [run_convert_bytes_string w 31 9 5 _ _ c Try.underlying31 Try.underlying5 Try.underlying9]
      simp [Conv.bytesToString, loadCells, loadCellsFrom]

/-- Records laid one behind the other. -/
def fl {α : Type} (f : α → List Value) (l : List α) : List Value := l.flatMap f
theorem fl_length {α : Type} (f : α → List Value) (m : Nat) (hf : ∀ x, (f x).length = m) : ∀ l : List α, (fl f l).length = l.length * m
  | [] => by simp [fl]
  | x :: r => by
    have := fl_length f m hf r
    simp only [fl, List.flatMap_cons, List.length_append, hf] at this ⊢
    rw [this, List.length_cons, Nat.add_mul]; omega
theorem fl_get {α : Type} (f : α → List Value) (m : Nat) (hf : ∀ x, (f x).length = m) : ∀ (l : List α) (k j : Nat) (x : α), l[k]? = some x → j < m → (fl f l)[k * m + j]? = (f x)[j]?
  | y :: r, 0, j, x, h, hj => by
    obtain rfl : y = x := by simpa using h
    simp only [fl, List.flatMap_cons, Nat.zero_mul, Nat.zero_add]
    rw [List.getElem?_append_left (by rw [hf]; exact hj)]
  | y :: r, k + 1, j, x, h, hj => by
    have ih := fl_get f m hf r k j x (by simpa using h) hj
    simp only [fl, List.flatMap_cons] at ih ⊢
    rw [List.getElem?_append_right (by rw [hf, Nat.add_mul]; omega), hf, ← ih]
    congr 1
    rw [Nat.add_mul]; omega
theorem fl_snoc {α : Type} (f : α → List Value) (l : List α) (x : α) : fl f (l ++ [x]) = fl f l ++ f x := by simp [fl]

def pairH (p : Int × Value) : List Value := [.int .i64 p.1, p.2]
theorem pairH_length (p : Int × Value) : (pairH p).length = 2 := rfl

/-- Headers are those of records. -/
def Match (w : World) (hs : List (Int × Value)) (l : List (Int × List Int)) : Prop := hs.length = l.length ∧ ∀ (k : Nat) (p : Int × Value) (x : Int × List Int), hs[k]? = some p → l[k]? = some x → p.1 = x.1 ∧ BytesAt w p.2 x.2
theorem Match.below {w w1 : World} {hs : List (Int × Value)} {l : List (Int × List Int)} (h : Match w hs l) (hb : Below w.heap.size w w1) : Match w1 hs l :=
  ⟨h.1, fun k p x h1 h2 => ⟨(h.2 k p x h1 h2).1, (h.2 k p x h1 h2).2.below hb⟩⟩
theorem Match.snoc {w : World} {hs : List (Int × Value)} {l : List (Int × List Int)} (h : Match w hs l) {p : Int × Value} {x : Int × List Int} (h1 : p.1 = x.1) (h2 : BytesAt w p.2 x.2) : Match w (hs ++ [p]) (l ++ [x]) := by
  refine ⟨by simp [h.1], fun k p' x' e1 e2 => ?_⟩
  by_cases hk : k < hs.length
  · rw [List.getElem?_append_left hk] at e1
    rw [List.getElem?_append_left (by rw [← h.1]; exact hk)] at e2
    exact h.2 k p' x' e1 e2
  · rw [List.getElem?_append_right (by omega)] at e1
    rw [List.getElem?_append_right (by rw [← h.1]; omega)] at e2
    have e : k - hs.length = 0 := by
      have := (List.getElem?_eq_some_iff.1 e1).1
      simp at this; omega
    rw [← h.1] at e2
    rw [e] at e1 e2
    simp at e1 e2
    subst e1 e2
    exact ⟨h1, h2⟩
theorem Match.take {w : World} {hs : List (Int × Value)} {l : List (Int × List Int)} (h : Match w hs l) (k : Nat) : Match w (hs.take k) (l.take k) := by
  refine ⟨by simp [h.1], fun j p x e1 e2 => ?_⟩
  rw [List.getElem?_take] at e1 e2
  split at e1
  · next hj => rw [if_pos hj] at e2; exact h.2 j p x e1 e2
  · cases e1

/-- A slice of such records. -/
def PairsV (w : World) (v : Value) (l : List (Int × List Int)) : Prop := ∃ hs A c, v = .slice A l.length c ∧ l.length ≤ c ∧ Rd w A (fl pairH hs) ∧ (A = none → l = []) ∧ Match w hs l
theorem PairsV.below {w w1 : World} {v : Value} {l : List (Int × List Int)} (h : PairsV w v l) (hb : Below w.heap.size w w1) : PairsV w1 v l := by
  obtain ⟨hs, A, c, h1, h2, h3, h4, h5⟩ := h
  exact ⟨hs, A, c, h1, h2, h3.below hb, h4, h5.below hb⟩
/-- Record k of it. -/
theorem pair_at {w : World} {A : Option Addr} {hs : List (Int × Value)} {l : List (Int × List Int)} (hr : Rd w A (fl pairH hs)) (hm : Match w hs l) (k : Nat) (hk : k < l.length) :
    ∃ b o a n c, A = some ⟨b, o, none⟩ ∧ hs[k]? = some (l[k].1, .slice a n c) ∧ w.cell? ⟨b, o + k * 2, none⟩ = some (.int .i64 l[k].1) ∧ w.cell? ⟨b, o + k * 2 + 1, none⟩ = some (.slice a n c) ∧ BytesAt w (.slice a n c) l[k].2 := by
  have hk2 : k < hs.length := by rw [hm.1]; exact hk
  have e : hs[k]? = some hs[k] := List.getElem?_eq_getElem hk2
  obtain ⟨h1, h2⟩ := hm.2 k hs[k] l[k] e (List.getElem?_eq_getElem hk)
  obtain ⟨b, o, rfl, hc⟩ := hr (by
    intro h
    have := congrArg List.length h
    rw [fl_length pairH 2 pairH_length] at this
    rw [List.length_nil] at this; omega)
  have c0 := hc (k * 2 + 0) (.int .i64 hs[k].1) (by rw [fl_get pairH 2 pairH_length hs k 0 _ e (by decide)]; rfl)
  have c1 := hc (k * 2 + 1) hs[k].2 (by rw [fl_get pairH 2 pairH_length hs k 1 _ e (by decide)]; rfl)
  obtain ⟨a, c, e2, hc2, hr2, ha2⟩ := h2
  refine ⟨b, o, a, l[k].2.length, c, rfl, ?_, ?_, ?_, a, c, rfl, hc2, hr2, ha2⟩
  · rw [e, ← h1, ← e2]
  · rw [← h1]; exact c0
  · rw [← e2]; exact c1

theorem zzFits3_calls (t : Int) (A : Option Addr) (n c : Nat) (w : World) (hn : n ≤ 9223372036854775807) :
    Calls Try.prog 51 #[.agg #[.int .i64 t, .slice A n c]] w fun e w' => ∃ r, e = .returned (.bool r) ∧ Below w.heap.size w w' := by
  by_cases h : 2147483647 < n
  · go_enter Try.func51, Try.ntmps51
    go_wp2_with fail
    go_ret
    exact ⟨_, rfl, (Below.refl _ w).alloc (Nat.le_refl _) _⟩
  · go_enter Try.func51, Try.ntmps51
    go_wp2_with fail
    go_ret
    exact ⟨_, rfl, (Below.refl _ w).alloc (Nat.le_refl _) _⟩

def LenOk (l : List (Int × List Int)) : Prop := l.length ≤ 9223372036854775807 ∧ ∀ x ∈ l, x.2.length ≤ 9223372036854775807

set_option maxHeartbeats 1000000 in
set_option maxRecDepth 100000 in
theorem zzFits2_calls (v : Value) (l : List (Int × List Int)) (w : World) (hv : PairsV w v l) (hl : LenOk l) :
    Calls Try.prog 21 #[v] w fun e w' => ∃ r, e = .returned (.bool r) ∧ (r = true → l.length ≤ 2147483647) ∧ Below w.heap.size w w' := by
  obtain ⟨hs, A, c, rfl, hc, hr, hA, hm⟩ := hv
  have hln := hl.1
  have HR := Lib.hid hr
  have HM := Lib.hid hm
  have HL := Lib.hid hl
  clear hr hm hA hl
  by_cases h : 2147483647 < l.length
  · go_enter Try.func21, Try.ntmps21
    go_wp2_with fail
    go_ret
    exact ⟨_, rfl, by simp, Below.refl _ _⟩
  · go_enter Try.func21, Try.ntmps21
    go_wp2_with fail
    go_loopw [10] (fun i wr => ∃ k : Nat, k ≤ l.length ∧ i = .int .i64 k ∧ Below w.heap.size w wr) (fun i _ => l.length - (intOf i).toNat)
    case atStart => exact ⟨0, Nat.zero_le _, rfl, Below.refl _ _⟩
    case round =>
      obtain ⟨k, hk, rfl, hb⟩ := hrel
      have hbs := hb.size
      have HB := Lib.hid hb
      clear hb
      by_cases hlt : k < l.length
      · obtain ⟨b, o, a, n, c', rfl, -, e0, e1, e2⟩ := pair_at HR.out HM.out k hlt
        have f0 := cells_one HB.out e0
        have f1 := cells_one HB.out e1
        have hn : n ≤ 9223372036854775807 := by
          obtain ⟨A', c'', h1, -⟩ := e2
          injection h1 with _ h2
          have := HL.out.2 _ (List.getElem_mem hlt)
          omega
        have hne : 0 < l.length := by omega
        obtain ⟨t, ht⟩ : ∃ t, t = l[k].1 := ⟨_, rfl⟩
        rw [← ht] at f0
        clear e0 e1 e2 ht
        go_wp2_with fail
        refine (zzFits3_calls t a n c' _ hn).mono ?_
        rintro e w1 ⟨r, rfl, hb1⟩
        have HB1 := Lib.hid (below_trans (HB.out.alloc hbs _) hb1)
        clear hb1
        cases r with
        | true =>
          go_wp2_with fail
          go_roundw
          case rel => exact ⟨k + 1, by omega, by go_num, HB1.out⟩
          case measure => simp [intOf]; omega
        | false =>
          go_wp2_with fail
          go_ret
          exact ⟨_, rfl, by simp, HB1.out⟩
      · have hkl : k = l.length := by omega
        subst hkl
        go_wp2_with fail
        go_ret
        exact ⟨_, rfl, fun _ => by omega, HB.out⟩
end Go.Proofs.Ytbogknjgjbhagaa
