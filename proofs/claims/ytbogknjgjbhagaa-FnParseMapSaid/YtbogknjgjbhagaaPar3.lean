/- The thin package's attributes, one behind the other, in a variable. -/
import Derived.Test.YtbogknjgjbhagaaPar2
import Derived.Test.YtbogknjgjbhagaaNum2
namespace Go.Proofs.Ytbogknjgjbhagaa
open Go.RowKit
set_option linter.unusedSimpArgs false

/-- Bytes in memory of one's own. -/
def OwnB (w : World) (base : Nat) (v : Value) (d : List Int) : Prop := w.ownsRow base 5 1 v d.length (bytesC d)
theorem OwnB.at_ {w : World} {base : Nat} {v : Value} {d : List Int} (h : OwnB w base v d) : BytesAt w v d := by
  obtain ⟨A, c, rfl, h1, h2, h3⟩ := Rd.of_own h
  exact ⟨A, c, rfl, h1, h2, fun e => List.eq_nil_of_length_eq_zero (h3 e).1⟩
theorem own_block {w : World} {base e size : Nat} {v : Value} {n : Nat} {cs : List Value} (h : w.ownsRow base e size v n cs) (g : Nat) (hg : v.ownBlock = some g) : base ≤ g ∧ ∃ cur, w.heap[g]? = some (.cells cur e (0, 0)) := by
  rcases h.2 with ⟨rfl, -⟩ | ⟨g', cap, cur, rfl, hb, hgg, -⟩
  · cases hg
  · simp [Value.ownBlock] at hg
    subst hg
    exact ⟨hb, cur, hgg⟩
/-- Rows of different types do not meet. -/
theorem own_kept {w w' : World} {base e size : Nat} {v : Value} {n : Nat} {cs : List Value} {row : Option Nat} (h : w.ownsRow base e size v n cs) (hg : w.grownBy w' row)
    (hr : ∀ g, row = some g → ∃ cur t x, w.heap[g]? = some (.cells cur t x) ∧ t ≠ e) : w'.ownsRow base e size v n cs := by
  refine h.kept hg ?_
  cases ho : v.ownBlock with
  | none => exact .inl rfl
  | some g =>
    refine .inr fun e2 => ?_
    obtain ⟨-, cur, h1⟩ := own_block h g ho
    obtain ⟨cur2, t, x, h2, h3⟩ := hr g e2.symm
    rw [h1] at h2
    injection h2 with h2
    injection h2 with _ h2
    exact h3 h2.symm

def MatchO (w : World) (base : Nat) (hs : List (Int × Value)) (l : List (Int × List Int)) : Prop := hs.length = l.length ∧ ∀ (k : Nat) (p : Int × Value) (x : Int × List Int), hs[k]? = some p → l[k]? = some x → p.1 = x.1 ∧ OwnB w base p.2 x.2
theorem MatchO.match_ {w : World} {base : Nat} {hs : List (Int × Value)} {l : List (Int × List Int)} (h : MatchO w base hs l) : Match w hs l :=
  ⟨h.1, fun k p x h1 h2 => ⟨(h.2 k p x h1 h2).1, (h.2 k p x h1 h2).2.at_⟩⟩
theorem MatchO.kept {w w' : World} {base : Nat} {hs : List (Int × Value)} {l : List (Int × List Int)} {row : Option Nat} (h : MatchO w base hs l) (hg : w.grownBy w' row)
    (hr : ∀ g, row = some g → ∃ cur t x, w.heap[g]? = some (.cells cur t x) ∧ t ≠ 5) : MatchO w' base hs l :=
  ⟨h.1, fun k p x h1 h2 => ⟨(h.2 k p x h1 h2).1, own_kept (h.2 k p x h1 h2).2 hg hr⟩⟩
theorem below_grows {w w1 : World} (hb : Below w.heap.size w w1) : w.grownBy w1 none := ⟨hb.os, hb.tape, hb.output, hb.size, fun k hk _ => hb.block k hk⟩
theorem MatchO.below {w w' : World} {base : Nat} {hs : List (Int × Value)} {l : List (Int × List Int)} (h : MatchO w base hs l) (hb : Below w.heap.size w w') : MatchO w' base hs l :=
  h.kept (below_grows hb) (fun g e => by cases e)
theorem MatchO.snoc {w : World} {base : Nat} {hs : List (Int × Value)} {l : List (Int × List Int)} (h : MatchO w base hs l) {p : Int × Value} {x : Int × List Int} (h1 : p.1 = x.1) (h2 : OwnB w base p.2 x.2) : MatchO w base (hs ++ [p]) (l ++ [x]) := by
  refine ⟨by simp [h.1], fun k p' x' e1 e2 => ?_⟩
  by_cases hk : k < hs.length
  · rw [List.getElem?_append_left hk] at e1
    rw [List.getElem?_append_left (by rw [← h.1]; exact hk)] at e2
    exact h.2 k p' x' e1 e2
  · rw [List.getElem?_append_right (by omega)] at e1
    rw [List.getElem?_append_right (by rw [← h.1]; omega)] at e2
    have e : k - hs.length = 0 := by
      have := (List.getElem?_eq_some_iff.1 e1).1
      simp at this; omega
    rw [← h.1] at e2
    rw [e] at e1 e2
    simp at e1 e2
    subst e1 e2
    exact ⟨h1, h2⟩

/-- A variable that holds the attributes so far, in memory of one's own. -/
def OutAt (w : World) (base ob : Nat) (l : List (Int × List Int)) : Prop := ∃ v hs, w.heap[ob]? = some (.cells #[v] 41 (0, 0)) ∧ w.ownsRow base 52 2 v l.length (fl pairH hs) ∧ MatchO w base hs l
theorem OutAt.below {w w' : World} {base ob : Nat} {l : List (Int × List Int)} (h : OutAt w base ob l) (hb : Below w.heap.size w w') : OutAt w' base ob l := by
  obtain ⟨v, hs, h1, h2, h3⟩ := h
  exact ⟨v, hs, (hb.block ob (lt_of_block h1)).trans h1, own_below h2 hb, h3.below hb⟩
/-- A store elsewhere. -/
theorem OutAt.far {w : World} {base ob : Nat} {l : List (Int × List Int)} (h : OutAt w base ob l) {p : Addr} (h1 : p.block ≠ ob) (h2 : p.block < base) (u : Value) : OutAt (w.setCell p u) base ob l := by
  obtain ⟨v, hs, e1, e2, e3⟩ := h
  refine ⟨v, hs, ?_, ownsRow_setCell_other e2 (fun e => ?_) u, e3.1, fun k p' x f1 f2 => ⟨(e3.2 k p' x f1 f2).1, ownsRow_setCell_other (e3.2 k p' x f1 f2).2 (fun e => ?_) u⟩⟩
  · rw [Below.heap_setCell _ _ _ _ (fun e => h1 e.symm)]; exact e1
  · have := (e2.lt _ e).1; omega
  · have := (World.ownsRow.lt (e3.2 k p' x f1 f2).2 _ e).1; omega

/-- One more behind them. -/
theorem out_append (base ob : Nat) (v : Value) (hs : List (Int × Value)) (l : List (Int × List Int)) (p : Int × Value) (x : Int × List Int) (w : World) (hv : w.heap[ob]? = some (.cells #[v] 41 (0, 0))) (hown : w.ownsRow base 52 2 v l.length (fl pairH hs))
    (hm : MatchO w base hs l) (h1 : p.1 = x.1) (h2 : OwnB w base p.2 x.2) (g : Nat) (hc : ∀ j u, (pairH p)[j]? = some u → w.cell? ((⟨g, 0, none⟩ : Addr).add j) = some u) (hbig : l.length ≤ 1000000) (hbase : base ≤ w.heap.size) (hob : ob < base) :
    ∃ A' c' w', (Builtin.append_ #[41, 41] 41 #[v, .slice (some ⟨g, 0, none⟩) 1 1]).run Try.prog w = .ok (.slice A' (l.length + 1) c') w' ∧ w'.cell? ⟨ob, 0, none⟩ = some v ∧ w'.frozen? ⟨ob, 0, none⟩ = false ∧
      OutAt (w'.setCell ⟨ob, 0, none⟩ (.slice A' (l.length + 1) c')) base ob (l ++ [x]) ∧ (∀ W : World, W.grownBy w (some ob) → W.heap.size ≤ base → W.grownBy (w'.setCell ⟨ob, 0, none⟩ (.slice A' (l.length + 1) c')) (some ob)) ∧
      ∀ (k : Nat) (cur : Array Value) (t : TypeId) (y : Nat × Nat), w.heap[k]? = some (.cells cur t y) → t ≠ 52 → w'.heap[k]? = some (.cells cur t y) := by
  obtain ⟨i0, hi, hz0, hz1, hz2⟩ := info_parts Try.info52
  have hone : p.2.oneCell' = true := by
    obtain ⟨A, c, e, -⟩ := h2.at_
    rw [e]; rfl
  obtain ⟨v', w', hr, ho, hg, -⟩ := run_append_own (P := Try.prog) w base 41 41 52 i0 (.agg #[.int .i64 0, .slice none 0 0]) 2 32 Try.underlying41 hi hz0 hz1 hz2 rfl (by decide) v l.length (fl pairH hs) hown ⟨g, 0, none⟩ 1 1 (pairH p) rfl hc (by intro u hu; simp [pairH] at hu; rcases hu with rfl | rfl <;> first | rfl | exact hone) (by unfold maxLen; omega) (by omega) hbase
  have hrow : ∀ k, v.ownBlock = some k → base ≤ k ∧ ∃ cur t x, w.heap[k]? = some (.cells cur t x) ∧ t ≠ 5 ∧ k ≠ ob := by
    intro k hk
    obtain ⟨q1, cur, q2⟩ := own_block hown k hk
    exact ⟨q1, cur, 52, _, q2, by decide, by omega⟩
  have hobk : w'.heap[ob]? = some (.cells #[v] 41 (0, 0)) := by
    rw [hg.block ob (lt_of_block hv) (fun e => by obtain ⟨-, _, _, _, _, _, q⟩ := hrow ob e.symm; exact q rfl)]; exact hv
  have hm' : MatchO w' base (hs ++ [p]) (l ++ [x]) := (hm.snoc h1 h2).kept hg (fun k hk => by obtain ⟨-, cur, t, y, q1, q2, -⟩ := hrow k hk; exact ⟨cur, t, y, q1, q2⟩)
  obtain ⟨A', c', rfl, -, -, -⟩ := Rd.of_own ho
  refine ⟨A', c', w', hr, cell_of_one hobk, free_of_one hobk, ⟨_, hs ++ [p], one_setCell hobk, ?_, hm'.1, fun k p' x' f1 f2 => ⟨(hm'.2 k p' x' f1 f2).1, ownsRow_setCell_other (hm'.2 k p' x' f1 f2).2 (fun e => ?_) _⟩⟩, fun W hW hWb => ?_, fun k cur t y hk ht => ?_⟩
  · rw [fl_snoc, List.length_append]
    exact ownsRow_setCell_other ho (fun e => by have := (ho.lt _ e).1; simp at this; omega) _
  · have := (World.ownsRow.lt (hm'.2 k p' x' f1 f2).2 _ e).1
    simp at this; omega
  · refine ⟨hg.os.trans hW.os, hg.tape.trans hW.tape, hg.output.trans hW.output, ?_, fun k hk hne => ?_⟩
    · have a1 := hW.size; have a2 := hg.size; simp [World.setCell]; omega
    · rw [Below.heap_setCell _ _ _ _ (fun e => hne (by simp at e; rw [e])), hg.block k (Nat.lt_of_lt_of_le hk hW.size) (fun e => by have := (hrow k e.symm).1; omega), hW.block k hk hne]
  · rw [hg.block k (lt_of_block hk) (fun e => ?_)]
    · exact hk
    · obtain ⟨-, cur2, q2⟩ := own_block hown k e.symm
      rw [hk] at q2
      injection q2 with q2
      injection q2 with _ q2
      exact ht q2

set_option maxHeartbeats 1000000 in
set_option maxRecDepth 100000 in
theorem plain_calls (L T : Int) (v : Value) (d : List Int) (w : World) (hv : BytesAt w v d) (hT : 0 ≤ T ∧ T ≤ 65535) (hd : d.length ≤ 1000000) :
    Calls Try.prog 54 #[.agg #[.int .u16 L, .int .u16 T, v]] w fun e w' => ∃ v', e = .returned (.agg #[.int .i64 T, v']) ∧ OwnB w' w.heap.size v' d ∧ Below w.heap.size w w' := by
  obtain ⟨A, c, rfl, hc, hr, hA⟩ := hv
  have HR := Lib.hid hr
  have HA := Lib.hid hA
  have wT : IntKind.i64.wrap T = T := IntWalk.i64_in _ (by omega)
  clear hr hA
  go_enter Try.func54, Try.ntmps54
  obtain ⟨W1, hW1⟩ : ∃ W1, W1 = (w.alloc (.cells #[.int .u16 L, .int .u16 T, .slice A d.length c] 92)).alloc (.cells #[.int .i64 0, .slice none 0 0] 52) := ⟨_, rfl⟩
  have B1 : Below w.heap.size w W1 := by rw [hW1]; exact below2 w _ _
  have h3 : Three W1 w.heap.size (.int .u16 L) (.int .u16 T) (.slice A d.length c) := by
    rw [hW1]; exact Three.below (three_new w _ _ _ _) ((Below.refl _ _).alloc (Nat.le_refl _) _)
  have h2 : W1.heap[w.heap.size + 1]? = some (.cells #[.int .i64 0, .slice none 0 0] 52 (0, 0)) := by
    rw [hW1]; simpa using heap_alloc_new (w.alloc (.cells #[.int .u16 L, .int .u16 T, .slice A d.length c] 92)) (.cells #[.int .i64 0, .slice none 0 0] 52)
  have H3 := Lib.hid h3
  have H2 := Lib.hid h2
  have HB1 := Lib.hid B1
  go_wp2_with fail
  rw [← hW1]
  clear hW1 h3 h2 B1
  refine wp_region_held_drew (S := fun w' => w'.cell? ⟨w.heap.size, 1, none⟩ = some (.int .u16 T) ∧ w'.cell? ⟨w.heap.size, 2, none⟩ = some (.slice A d.length c) ∧ w.heap.size ≤ w'.heap.size) (by kernel_rfl) ⟨H3.out.2.1, H3.out.2.2, HB1.out.size⟩ (fun hHeld => ?_)
  refine wpAnyH_take (i := 0) (oi := ?o0) (v := ?v0) ?h0 (by kernel_rfl) (by kernel_rfl) (by kernel_rfl) ?q0 (Or.inl ⟨?w0, ?y0⟩) (by assumption) ?r0
  case h0 => (simp only [List.getElem?_toArray, List.getElem?_cons_succ, List.getElem?_cons_zero] <;> rfl)
  case q0 => exact fun _ _ _ h => h
  case w0 => rfl
  case y0 => (intro w hSw; (try dsimp only at hSw); go_simp; (try with_reducible rfl))
  try simp only [Act.put, List.setIfInBounds_toArray, List.set_cons_zero, List.set_cons_succ]
  refine wpAnyH_take (i := 1) (oi := ?o1) (v := ?v1) ?h1 (by kernel_rfl) (by kernel_rfl) (by kernel_rfl) ?q1 (Or.inl ⟨?w1, ?y1⟩) (by assumption) ?r1
  case h1 => (simp only [List.getElem?_toArray, List.getElem?_cons_succ, List.getElem?_cons_zero] <;> rfl)
  case q1 => exact fun _ _ _ h => h
  case w1 => rfl
  case y1 => (intro w hSw; (try dsimp only at hSw); go_simp; (try with_reducible rfl))
  try simp only [Act.put, List.setIfInBounds_toArray, List.set_cons_zero, List.set_cons_succ]
  refine wpAnyH_take (i := 2) (oi := ?o2) (v := ?v2) ?h2 (by kernel_rfl) (by kernel_rfl) (by kernel_rfl) ?q2 (Or.inl ⟨?w2, ?y2⟩) (by assumption) ?r2
  case h2 => (simp only [List.getElem?_toArray, List.getElem?_cons_succ, List.getElem?_cons_zero] <;> rfl)
  case q2 => exact fun _ _ _ h => h
  case w2 => rfl
  case y2 => (intro w hSw; (try dsimp only at hSw); go_simp; (try with_reducible rfl))
  try simp only [Act.put, List.setIfInBounds_toArray, List.set_cons_zero, List.set_cons_succ]
  refine wpAnyH_take (i := 3) (oi := ?o3) (v := ?v3) ?h3 (by kernel_rfl) (by kernel_rfl) (by kernel_rfl) ?q3 (Or.inl ⟨?w3, ?y3⟩) (by assumption) ?r3
  case h3 => (simp only [List.getElem?_toArray, List.getElem?_cons_succ, List.getElem?_cons_zero] <;> rfl)
  case q3 => exact fun _ _ _ h => h
  case w3 => rfl
  case y3 => (intro w hSw; (try dsimp only at hSw); go_simp; (try with_reducible rfl))
  try simp only [Act.put, List.setIfInBounds_toArray, List.set_cons_zero, List.set_cons_succ]
  refine wpAnyH_take (i := 4) (oi := ?o4) (v := ?v4) ?h4 (by kernel_rfl) (by kernel_rfl) (by kernel_rfl) ?q4 (Or.inl ⟨?w4, ?y4⟩) (by assumption) ?r4
  case h4 => (simp only [List.getElem?_toArray, List.getElem?_cons_succ, List.getElem?_cons_zero] <;> rfl)
  case q4 => exact fun _ _ _ h => h
  case w4 => rfl
  case y4 => (intro w hSw; (try dsimp only at hSw); go_simp; (try with_reducible rfl))
  try simp only [Act.put, List.setIfInBounds_toArray, List.set_cons_zero, List.set_cons_succ]
  refine wpAnyH_take (i := 5) (oi := ?o5) (v := ?v5) ?h5 (by kernel_rfl) (by kernel_rfl) (by kernel_rfl) ?q5 (Or.inl ⟨?w5, ?y5⟩) (by assumption) ?r5
  case h5 => (simp only [List.getElem?_toArray, List.getElem?_cons_succ, List.getElem?_cons_zero] <;> rfl)
  case q5 => exact fun _ _ _ h => h
  case w5 => rfl
  case y5 => (intro w hSw; (try dsimp only at hSw); go_simp; (try with_reducible rfl))
  try simp only [Act.put, List.setIfInBounds_toArray, List.set_cons_zero, List.set_cons_succ]
  refine wpAnyH_ready (rs := [6]) (by kernel_rfl) (by simp) ?_
  refine AllReadyH.cons (o := ?o6) ?h6 (fun K hK => ?_) AllReadyH.nil
  case h6 => (simp only [List.getElem?_toArray, List.getElem?_cons_succ, List.getElem?_cons_zero] <;> rfl)
  go_simp
  refine (clone_bytes A d.length c (bytesC d) _ (HR.out.below HB1.out.drew) (by simp) (by omega) (bytesC_one _) (fun h => by rw [HA.out h]; rfl)).mono ?_
  rintro e w3 ⟨v3, rfl, hown3, hnil3, hb3⟩
  have B3 : Below W1.heap.size W1 w3 := below_trans (Below.refl _ _).drew hb3
  have hsz3 := B3.size
  have hb1s := HB1.out.size
  obtain ⟨A3, k3, rfl, -, -, -⟩ := Rd.of_own hown3
  have e2 := (B3.block (w.heap.size + 1) (lt_of_block H2.out)).trans H2.out
  have E2 := Lib.hid e2
  obtain ⟨q0, q1, f0, f1⟩ : w3.cell? ⟨w.heap.size + 1, 0, none⟩ = some (.int .i64 0) ∧ w3.cell? ⟨w.heap.size + 1, 1, none⟩ = some (.slice none 0 0) ∧ w3.frozen? ⟨w.heap.size + 1, 0, none⟩ = false ∧ w3.frozen? ⟨w.heap.size + 1, 1, none⟩ = false :=
    ⟨(cell_of_row _ _ 0 _ _ (0, 0) e2).trans rfl, (cell_of_row _ _ 1 _ _ (0, 0) e2).trans rfl, frozen_of_row _ _ 0 _ _ e2, frozen_of_row _ _ 1 _ _ e2⟩
  have g3 := H3.out.below B3
  have HO := Lib.hid hown3
  have HB3 := Lib.hid B3
  clear hown3 hb3 B3 e2
  refine hK.out _ _ ?s6 (fun hHeld => ?_)
  case s6 => exact ⟨g3.2.1, g3.2.2, Nat.le_trans hb1s hsz3⟩
  clear hK K
  try simp only [Act.put, List.setIfInBounds_toArray, List.set_cons_zero, List.set_cons_succ]
  refine wpAnyH_take (i := 7) (oi := ?o7) (v := ?v7) ?h7 (by kernel_rfl) (by kernel_rfl) (by kernel_rfl) ?q7 (Or.inl ⟨?w7, ?y7⟩) (by assumption) ?r7
  case h7 => (simp only [List.getElem?_toArray, List.getElem?_cons_succ, List.getElem?_cons_zero] <;> rfl)
  case q7 => exact fun _ _ _ h => h
  case w7 => rfl
  case y7 => (intro w hSw; (try dsimp only at hSw); go_simp; (try with_reducible rfl))
  try simp only [Act.put, List.setIfInBounds_toArray, List.set_cons_zero, List.set_cons_succ]
  refine wpAnyH_ready (rs := [8]) (by kernel_rfl) (by simp) ?_
  refine AllReadyH.cons (o := ?o8) ?h8 (fun K hK => ?_) AllReadyH.nil
  case h8 => (simp only [List.getElem?_toArray, List.getElem?_cons_succ, List.getElem?_cons_zero] <;> rfl)
  go_simp
  refine hK.out _ _ ?s8 (fun hHeld => ?_)
  case s8 => exact ⟨by rw [cell_far2 _ _ _ (by simp)]; exact g3.2.1, by rw [cell_far2 _ _ _ (by simp)]; exact g3.2.2, by have := hb1s; simp [World.setCell]; omega⟩
  clear hK K
  try simp only [Act.put, List.setIfInBounds_toArray, List.set_cons_zero, List.set_cons_succ]
  refine wpAnyH_done (by kernel_rfl) ?_ _
  have f2 := heap_setCell_same _ _ 1 _ _ (.slice A3 d.length k3) (heap_setCell_same w3 (w.heap.size + 1) 0 _ _ (.int .i64 T) E2.out)
  have bf : Below w.heap.size w ((w3.setCell ⟨w.heap.size + 1, 0, none⟩ (.int .i64 T)).setCell ⟨w.heap.size + 1, 1, none⟩ (.slice A3 d.length k3)) := ((HB1.out.trans (HB3.out.mono HB1.out.size)).setCell (by simp) _).setCell (by simp) _
  have of : OwnB ((w3.setCell ⟨w.heap.size + 1, 0, none⟩ (.int .i64 T)).setCell ⟨w.heap.size + 1, 1, none⟩ (.slice A3 d.length k3)) w.heap.size (.slice A3 d.length k3) d := by
    have ne : (Value.slice A3 d.length k3).ownBlock ≠ some (w.heap.size + 1) := fun e => by
      have h1 := (HO.out.lt _ e).1
      have h2 := lt_of_block H2.out
      simp at h1; omega
    exact own_lower (ownsRow_setCell_other (ownsRow_setCell_other HO.out ne _) ne _) (by simp; exact hb1s)
  obtain ⟨W3, hW3⟩ : ∃ W3, W3 = ((w3.setCell ⟨w.heap.size + 1, 0, none⟩ (.int .i64 T)).setCell ⟨w.heap.size + 1, 1, none⟩ (.slice A3 d.length k3)) := ⟨_, rfl⟩
  rw [← hW3] at f2 bf of
  rw [← hW3]
  have r0 : W3.cell? ⟨w.heap.size + 1, 0, none⟩ = some (.int .i64 T) := (cell_of_row _ _ 0 _ _ (0, 0) f2).trans rfl
  have r1 : W3.cell? ⟨w.heap.size + 1, 1, none⟩ = some (.slice A3 d.length k3) := (cell_of_row _ _ 1 _ _ (0, 0) f2).trans rfl
  have BF := Lib.hid bf
  have OF := Lib.hid of
  clear hHeld hW3 f2 bf of
  go_wp2_with fail
  refine bodyPost_ret (v := .agg #[.int .i64 T, .slice A3 d.length k3]) (by simp [results, Try.results54, go_sem, r0, r1]) rfl ⟨_, rfl, OF.out, BF.out⟩

/-- Memory that a store into one variable, and memory of one's own, leave alone. -/
theorem cell_except {w W : World} {ob : Nat} {x : Value} {t : TypeId} (hg : w.grownBy W (some ob)) (ho : w.heap[ob]? = some (.cells #[x] t (0, 0))) {b o : Nat} {u : Value} (h : w.cell? ⟨b, o, none⟩ = some u) (hx : b = ob → u ≠ x) : W.cell? ⟨b, o, none⟩ = some u := by
  by_cases hb : b = ob
  · exfalso
    subst hb
    rw [cell_of_row _ _ o _ _ (0, 0) ho] at h
    cases o with
    | zero => exact hx rfl (by simpa using h.symm)
    | succ o => simp at h
  · rw [World.cell?_of_block (hg.block b (World.block_lt_of_cell? w _ h) (fun e => hb (by injection e)))]; exact h
theorem Rd.except {w W : World} {ob : Nat} {x : Value} {t : TypeId} {A : Option Addr} {cs : List Value} (h : Rd w A cs) (hg : w.grownBy W (some ob)) (ho : w.heap[ob]? = some (.cells #[x] t (0, 0))) (hx : (∀ b o, A = some ⟨b, o, none⟩ → b ≠ ob) ∨ ∀ u ∈ cs, u ≠ x) : Rd W A cs := by
  intro hne
  obtain ⟨b, o, rfl, hc⟩ := h hne
  refine ⟨b, o, rfl, fun j u hj => cell_except hg ho (hc j u hj) (fun e => ?_)⟩
  rcases hx with hx | hx
  · exact absurd e (hx b o rfl)
  · exact hx u (List.mem_of_getElem? hj)
theorem BytesAt.except {w W : World} {ob : Nat} {A0 : Option Addr} {n0 c0 : Nat} {t : TypeId} {v : Value} {d : List Int} (h : BytesAt w v d) (hg : w.grownBy W (some ob)) (ho : w.heap[ob]? = some (.cells #[.slice A0 n0 c0] t (0, 0))) : BytesAt W v d := by
  obtain ⟨A, c, h1, h2, h3, h4⟩ := h
  refine ⟨A, c, h1, h2, h3.except hg ho (.inr fun u hu => ?_), h4⟩
  simp only [bytesC, List.mem_map] at hu
  obtain ⟨i, -, rfl⟩ := hu
  intro e; cases e
end Go.Proofs.Ytbogknjgjbhagaa
