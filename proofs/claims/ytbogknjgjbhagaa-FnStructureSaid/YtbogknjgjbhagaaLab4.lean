/- The thin package's calls over stacks of labels: written, and read back. -/
import Derived.Test.YtbogknjgjbhagaaLab3
import Derived.Test.YtbogknjgjbhagaaTry
namespace Go.Proofs.Ytbogknjgjbhagaa
open Go.RowKit

theorem Try.enter42 (args : Array Value) (w : World) : (callFunc 42 args).run Try.prog w = .ok (.enter 42 args) w := by kernel_rfl

set_option maxHeartbeats 1000000 in
set_option maxRecDepth 100000 in
theorem fromLabels1_calls (bb ob b o c : Nat) (v0 : Value) (l : List Int) (w : World)
    (hb : w.heap[bb]? = some (.cells #[.slice (some ⟨b, o, none⟩) (4 * l.length) c] 31 (0, 0))) (ho : w.heap[ob]? = some (.cells #[v0] 30 (0, 0)))
    (hc : ∀ j u, (bytesC (labB l l.length))[j]? = some u → w.cell? ⟨b, o + j, none⟩ = some u) (hl : ∀ x ∈ l, 0 ≤ x ∧ x < 1048576) (h30 : l.length ≤ 30) (h0 : 0 < l.length) :
    Calls Try.prog 42 #[.pointer (some ⟨bb, 0, none⟩), .pointer (some ⟨ob, 0, none⟩)] w fun e w' => e = .returned (.bool true) ∧ w.grownBy w' (some ob) ∧
      ∃ v, w'.heap[ob]? = some (.cells #[v] 30 (0, 0)) ∧ w'.ownsRow w.heap.size 3 1 v l.length (intsC l) := by
  have c1 := cell_of_one hb
  have HO := Lib.hid ho
  have HC := Lib.hid hc
  have HL := Lib.hid hl
  have hob := lt_of_block ho
  clear hb ho hc hl
  go_enter Try.func42, Try.ntmps42
  go_wp2_with fail
  refine (clone_bytes _ _ _ (bytesC (labB l l.length)) w (fun _ => ⟨b, o, rfl, HC.out⟩) (by rw [bytesC_length, labB_length]) (by omega) (bytesC_one _) (by intro h; cases h)).mono ?_
  rintro e w1 ⟨v1, rfl, hown1, hnil1, hb1⟩
  obtain ⟨A1, k1, rfl, hk1, hr1, hn1⟩ := Rd.of_own hown1
  obtain ⟨b1, o1, rfl, hc1⟩ := hr1 (by intro h; have := congrArg List.length h; rw [bytesC_length, labB_length] at this; simp at this; omega)
  have HB1 := Lib.hid hb1
  have HC1 := Lib.hid hc1
  clear hown1 hnil1 hr1 hn1 hb1 hc1
  go_wp2_with fail
  refine (decode_calls b1 o1 k1 l w1 HC1.out HL.out h30 h0 hk1).mono ?_
  rintro e w2 ⟨v2, rfl, hown2, hb2⟩
  obtain ⟨A2, k2, rfl, hk2, hr2, hn2⟩ := Rd.of_own hown2
  have HB2 := Lib.hid hb2
  have HR2 := Lib.hid hr2
  have HN2 := Lib.hid hn2
  clear hown2 hb2 hr2 hn2
  go_wp2_with fail
  refine (clone_ints A2 _ _ (intsC l) w2 HR2.out (by simp) (by omega) (intsC_one _) (fun h => (HN2.out h).1)).mono ?_
  rintro e w3 ⟨v3, rfl, hown3, hnil3, hb3⟩
  obtain ⟨A3, k3, rfl, -, -, -⟩ := Rd.of_own hown3
  have B3 : Below w.heap.size w w3 := (HB1.out.trans (HB2.out.mono HB1.out.size)).trans (hb3.mono (Nat.le_trans HB1.out.size HB2.out.size))
  have ho3 : w3.heap[ob]? = some (.cells #[v0] 30 (0, 0)) := (B3.block ob hob).trans HO.out
  have cc := cell_of_one ho3
  have ff := free_of_one ho3
  have HO3 := Lib.hid ho3
  have HOWN := Lib.hid hown3
  have HB3 := Lib.hid B3
  have hsz : w.heap.size ≤ w2.heap.size := Nat.le_trans HB1.out.size HB2.out.size
  clear hown3 hnil3 hb3 B3 ho3
  go_wp2
  go_ret
  refine ⟨rfl, ?_, _, one_setCell HO3.out, ?_⟩
  · have h := HB3.out
    exact ⟨h.os, h.tape, h.output, by have := h.size; simp [World.setCell]; omega, fun k hk hne => by rw [Below.heap_setCell _ _ _ _ (fun e => hne (by simp at e; rw [e])), h.block k hk]⟩
  · refine ownsRow_setCell_other (own_lower HOWN.out hsz) ?_ _
    intro e
    have := (HOWN.out.lt _ e).1
    simp at this
    omega
/-- A variable (block ob, of slice type t) holds an owned row of elements of type e. -/
def OutRow (ob base t e : Nat) (n : Nat) (cs : List Value) (w : World) : Prop := ∃ v, w.heap[ob]? = some (.cells #[v] t (0, 0)) ∧ w.ownsRow base e 1 v n cs

theorem OutRow.far {ob base t e n : Nat} {cs : List Value} {w : World} (h : OutRow ob base t e n cs w) {p : Addr} (h1 : p.block ≠ ob) (h2 : p.block < base) (u : Value) : OutRow ob base t e n cs (w.setCell p u) := by
  obtain ⟨v, hv, ho⟩ := h
  refine ⟨v, ?_, ownsRow_setCell_other ho (fun e => ?_) u⟩
  · rw [Below.heap_setCell _ _ _ _ (fun e => h1 e.symm)]; exact hv
  · have := (ho.lt _ e).1
    omega

set_option maxHeartbeats 1000000 in
set_option maxRecDepth 100000 in
theorem fromLabels_calls (b o c : Nat) (l : List Int) (w : World)
    (hc : ∀ j u, (bytesC (labB l l.length))[j]? = some u → w.cell? ⟨b, o + j, none⟩ = some u) (hl : ∀ x ∈ l, 0 ≤ x ∧ x < 1048576) (h30 : l.length ≤ 30) (h0 : 0 < l.length) :
    Calls Try.prog 17 #[.slice (some ⟨b, o, none⟩) (4 * l.length) c] w fun e w' => ∃ v, e = .returned v ∧ w'.ownsRow w.heap.size 3 1 v l.length (intsC l) ∧ Below w.heap.size w w' := by
  have hmf : ∀ (fn : Fn) (first cap : Array Value) (w : World), (Instr.makeFunc fn first cap).run Try.prog w = .ok (.func fn first cap) w := fun _ _ _ _ => rfl
  have HC := Lib.hid hc
  have HL := Lib.hid hl
  clear hc hl
  go_enter Try.func17, Try.ntmps17
  go_wp2_with fail
  refine (try_calls 42 _ _ (some (w.heap.size + 1)) true (OutRow (w.heap.size + 1) (w.heap.size + 3) 30 3 l.length (intsC l)) (fun w => Try.enter42 _ w) (by simp) ?cl ?post).mono ?_
  case cl =>
    refine (fromLabels1_calls w.heap.size (w.heap.size + 1) b o c (.slice none 0 0) l _ (alloc_at3 _ _ _ _) (alloc_at3' _ _ _ _) (cells_below (below3 _ _ _ _) HC.out) HL.out h30 h0).mono ?_
    rintro e w' ⟨rfl, hg, v, hv, ho⟩
    exact ⟨rfl, hg, v, hv, by simpa using ho⟩
  case post =>
    intro w' h
    exact h.far (by simp) (by simp) _
  rintro e w1 ⟨rfl, hg, v, hv, hown⟩
  have B1 : Below w.heap.size w w1 := below_grown (below2 _ _ _) hg (by intro k hk; simp at hk; omega)
  obtain ⟨A, k, rfl, -, -, -⟩ := Rd.of_own hown
  have cc := cell_of_one hv
  have ff := free_of_one hv
  have HV := Lib.hid hv
  have HO := Lib.hid hown
  have HB := Lib.hid B1
  have hsz : w.heap.size + 1 < w1.heap.size := lt_of_block hv
  clear hg hv hown B1
  go_wp2
  have cc2 := cell_of_one (one_setCell (u := .slice A l.length k) HV.out)
  refine bodyPost_ret (v := .slice A l.length k) (by simp [results, Try.results17, go_sem, cc2]) rfl ⟨_, rfl, ?_, ?_⟩
  · refine ownsRow_setCell_other (own_lower HO.out (by omega)) (fun e => ?_) _
    have := (HO.out.lt _ e).1
    simp at this
  · exact HB.out.setCell (by simp) _

set_option maxHeartbeats 1000000 in
set_option maxRecDepth 100000 in
theorem implLabels_calls (b o c : Nat) (l : List Int) (w : World) (hc : ∀ j u, (intsC l)[j]? = some u → w.cell? ⟨b, o + j, none⟩ = some u) (hl : ∀ x ∈ l, 0 ≤ x ∧ x < 1048576) (h30 : l.length ≤ 30) (h0 : 0 < l.length) :
    Calls Try.prog 18 #[.slice (some ⟨b, o, none⟩) l.length c] w fun e w' => ∃ v, e = .returned v ∧ w'.ownsRow w.heap.size 5 1 v (4 * l.length) (bytesC (labB l l.length)) ∧ Below w.heap.size w w' := by
  have HC := Lib.hid hc
  have HL := Lib.hid hl
  clear hc hl
  go_enter Try.func18, Try.ntmps18
  go_wp2_with fail
  refine (clone_ints _ _ _ (intsC l) w (fun _ => ⟨b, o, rfl, HC.out⟩) (by simp) (by omega) (intsC_one _) (by intro h; cases h)).mono ?_
  rintro e w1 ⟨v1, rfl, hown1, hnil1, hb1⟩
  obtain ⟨A1, k1, rfl, hk1, hr1, hn1⟩ := Rd.of_own hown1
  obtain ⟨b1, o1, rfl, hc1⟩ := hr1 (by intro h; have := congrArg List.length h; simp only [intsC_length, List.length_nil] at this; omega)
  have HB1 := Lib.hid hb1
  have HC1 := Lib.hid hc1
  clear hown1 hnil1 hr1 hn1 hb1 hc1
  go_wp2_with fail
  refine (encode_calls b1 o1 k1 l w1 (fun j hj => HC1.out j _ (by simp [intsC, List.getElem?_eq_getElem hj])) HL.out h30 hk1).mono ?_
  rintro e w2 ⟨v2, rfl, hown2, hb2⟩
  obtain ⟨A2, k2, rfl, hk2, hr2, hn2⟩ := Rd.of_own hown2
  have HB2 := Lib.hid hb2
  have HR2 := Lib.hid hr2
  have HN2 := Lib.hid hn2
  clear hown2 hb2 hr2 hn2
  go_wp2_with fail
  refine (clone_bytes A2 _ _ (bytesC (labB l l.length)) w2 HR2.out (by rw [bytesC_length, labB_length]) (by omega) (bytesC_one _) (fun h => (HN2.out h).1)).mono ?_
  rintro e w3 ⟨v3, rfl, hown3, hnil3, hb3⟩
  obtain ⟨A3, k3, rfl, -, -, -⟩ := Rd.of_own hown3
  have B3 : Below w.heap.size w w3 := (HB1.out.trans (HB2.out.mono HB1.out.size)).trans (hb3.mono (Nat.le_trans HB1.out.size HB2.out.size))
  have HOWN := Lib.hid hown3
  have HB3 := Lib.hid B3
  have hsz : w.heap.size ≤ w2.heap.size := Nat.le_trans HB1.out.size HB2.out.size
  clear hown3 hnil3 hb3 B3
  go_wp2
  go_ret
  exact ⟨_, rfl, own_lower HOWN.out hsz, HB3.out⟩

end Go.Proofs.Ytbogknjgjbhagaa
