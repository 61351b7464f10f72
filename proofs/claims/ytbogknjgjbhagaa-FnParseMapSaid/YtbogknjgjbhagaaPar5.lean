/- The thin package's reading of attributes. -/
import Derived.Test.YtbogknjgjbhagaaPar4
namespace Go.Proofs.Ytbogknjgjbhagaa
open Go.RowKit
set_option linter.unusedSimpArgs false

/-- What the variable holds is stored into it once more. -/
theorem out_final {w : World} {base ob : Nat} {l : List (Int × List Int)} {v : Value} {hs : List (Int × Value)} (h1 : w.heap[ob]? = some (.cells #[v] 41 (0, 0))) (h2 : w.ownsRow base 52 2 v l.length (fl pairH hs)) (h3 : MatchO w base hs l) (hb : ob < base) (u : Value) :
    PairsV (w.setCell ⟨ob, 0, none⟩ u) v l := by
  have _ := h1
  refine own_pairs (ownsRow_setCell_other h2 (fun e => ?_) u) rfl (MatchO.match_ (base := base) ⟨h3.1, fun k p x e1 e2 => ⟨(h3.2 k p x e1 e2).1, ownsRow_setCell_other (h3.2 k p x e1 e2).2 (fun e => ?_) u⟩⟩)
  · have := (h2.lt _ e).1; simp at this; omega
  · have := (World.ownsRow.lt (h3.2 k p x e1 e2).2 _ e).1; simp at this; omega

set_option maxHeartbeats 1000000 in
set_option maxRecDepth 100000 in
theorem parse_good (A : Option Addr) (n c : Nat) (l : List (Int × List Int)) (w : World) (hr : Rd w A (bytesC (listB l))) (hn : n = (listB l).length) (hA : A = none → n = 0) (hok : ∀ x ∈ l, AttrOk x) (hb : ∀ x ∈ l, AllB x.2) (h20 : l.length ≤ 20) (hbig : n ≤ 1000000) :
    Calls Try.prog 24 #[.slice A n c] w fun e w' => ∃ v, e = .returned (.tuple #[v, .bool true]) ∧ PairsV w' v l ∧ Below w.heap.size w w' := by
  have hmf : ∀ (fn : Fn) (first cap : Array Value) (w : World), (Instr.makeFunc fn first cap).run Try.prog w = .ok (.func fn first cap) w := fun _ _ _ _ => rfl
  have HR := Lib.hid hr
  have HN := Lib.hid hn
  have HA := Lib.hid hA
  have HOK := Lib.hid hok
  have HAB := Lib.hid hb
  clear hr hn hA hok hb
  go_enter Try.func24, Try.ntmps24
  go_wp2_with fail
  refine (try_calls 52 _ _ (some (w.heap.size + 1)) true (fun W => OutAt W (w.heap.size + 3) (w.heap.size + 1) l) (fun w => Try.enter52 _ w) (by simp) ?cl ?post).mono ?_
  case cl =>
    refine (parse1_good w.heap.size (w.heap.size + 1) A n c l _ (alloc_at3 _ _ _ _) (alloc_at3' _ _ _ _) (HR.out.below (below3 _ _ _ _)) HN.out HA.out HOK.out HAB.out h20 hbig).mono ?_
    rintro e w' ⟨rfl, hg, ho⟩
    exact ⟨rfl, hg, by simpa using ho⟩
  case post =>
    intro w' h
    exact h.far (by simp) (by simp) _
  rintro e w1 ⟨rfl, hg, v, hs, hv, hown, hm⟩
  have B1 : Below w.heap.size w w1 := below_grown (below2 _ _ _) hg (by intro k hk; simp at hk; omega)
  obtain ⟨A1, k1, rfl, -, -, -⟩ := Rd.of_own hown
  have cc := cell_of_one hv
  have ff := free_of_one hv
  have HV := Lib.hid hv
  have HO := Lib.hid hown
  have HM := Lib.hid hm
  have HB := Lib.hid B1
  clear hg hv hown hm B1
  go_wp2_with fail
  have cc2 := cell_of_one (one_setCell (u := .slice A1 l.length k1) HV.out)
  refine bodyPost_ret (v := .tuple #[.slice A1 l.length k1, .bool true]) (by simp [results, Try.results24, go_sem, cc2]) rfl ⟨_, rfl, out_final HV.out HO.out HM.out (by omega) _, HB.out.setCell (by simp) _⟩

set_option maxHeartbeats 1000000 in
set_option maxRecDepth 100000 in
theorem parse_bad (A : Option Addr) (n c : Nat) (l : List (Int × List Int)) (tail : List Int) (w : World) (hr : Rd w A (bytesC (listB l ++ tail))) (hn : n = (listB l ++ tail).length) (hA : A = none → n = 0) (hok : ∀ x ∈ l, AttrOk x) (hb : ∀ x ∈ l, AllB x.2) (h20 : l.length ≤ 20) (ht : Bad tail) (hbig : n ≤ 1000000) :
    Calls Try.prog 24 #[.slice A n c] w fun e w' => e = .returned (.tuple #[.slice none 0 0, .bool false]) ∧ Below w.heap.size w w' := by
  have hmf : ∀ (fn : Fn) (first cap : Array Value) (w : World), (Instr.makeFunc fn first cap).run Try.prog w = .ok (.func fn first cap) w := fun _ _ _ _ => rfl
  have HR := Lib.hid hr
  have HN := Lib.hid hn
  have HA := Lib.hid hA
  have HOK := Lib.hid hok
  have HAB := Lib.hid hb
  have HT := Lib.hid ht
  clear hr hn hA hok hb ht
  go_enter Try.func24, Try.ntmps24
  go_wp2_with fail
  refine (try_calls 52 _ _ (some (w.heap.size + 1)) false (fun W => W.heap[w.heap.size + 1]? = some (.cells #[.slice none 0 0] 41 (0, 0))) (fun w => Try.enter52 _ w) (by simp) ?cl ?post).mono ?_
  case cl =>
    refine (parse1_bad w.heap.size (w.heap.size + 1) A n c l tail _ (alloc_at3 _ _ _ _) (alloc_at3' _ _ _ _) (HR.out.below (below3 _ _ _ _)) HN.out HA.out HOK.out HAB.out h20 HT.out hbig).mono ?_
    rintro e w' ⟨rfl, hg, ho⟩
    exact ⟨rfl, hg, ho⟩
  case post =>
    intro w' h
    rw [Below.heap_setCell _ _ _ _ (by simp)]; exact h
  rintro e w1 ⟨rfl, hg, hv⟩
  have B1 : Below w.heap.size w w1 := below_grown (below2 _ _ _) hg (by intro k hk; simp at hk; omega)
  have cc := cell_of_one hv
  have ff := free_of_one hv
  have HV := Lib.hid hv
  have HB := Lib.hid B1
  clear hg hv B1
  go_wp2_with fail
  have cc2 := cell_of_one (one_setCell (u := .slice none 0 0) HV.out)
  refine bodyPost_ret (v := .tuple #[.slice none 0 0, .bool false]) (by simp [results, Try.results24, go_sem, cc2]) rfl ⟨rfl, HB.out.setCell (by simp) _⟩
end Go.Proofs.Ytbogknjgjbhagaa
