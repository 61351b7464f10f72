/- The thin package's bytes of an attribute. -/
import Derived.Test.YtbogknjgjbhagaaAtt7
import Derived.Test.YtbogknjgjbhagaaLab4
namespace Go.Proofs.Ytbogknjgjbhagaa
open Go.RowKit
set_option linter.unusedSimpArgs false

theorem Try.enter59 (args : Array Value) (w : World) : (callFunc 59 args).run Try.prog w = .ok (.enter 59 args) w := by kernel_rfl

set_option maxHeartbeats 1000000 in
set_option maxRecDepth 100000 in
theorem attr1_calls (w0 : World) (T : Tree) (nb ob : Nat) (a b c : Value) (w : World) (hT : XAt w0 w0 (fun _ => True) a b c T) (hb0 : Below w0.heap.size w0 w) (hg : Good T) (hcost : cost T ≤ 4000) (h3 : Three w nb a b c) (hob : w.heap[ob]? = some (.cells #[.slice none 0 0] 31 (0, 0))) :
    Calls Try.prog 59 #[.pointer (some ⟨nb, 0, none⟩), .pointer (some ⟨ob, 0, none⟩)] w fun e w' => e = .returned (.bool true) ∧ w.grownBy w' (some ob) ∧ OutRow ob w.heap.size 31 5 (attrB T).length (bytesC (attrB T)) w' := by
  obtain ⟨q0, q1, q2⟩ := h3
  have gc := given_calls w0 T w a b c hT hb0 hg hcost
  have hlen : (attrB T).length ≤ 4000 := Nat.le_trans (attrB_cost T) hcost
  obtain ⟨t, d, ks⟩ := T
  obtain ⟨A, k1, A', k2, rfl, rfl, rfl, -⟩ := XAt.shape hT
  obtain ⟨q, hq⟩ : ∃ q, q = (attrB (.node t d ks)).length := ⟨_, rfl⟩
  rw [← hq] at hlen
  have HQ := Lib.hid hq
  have GC := Lib.hid gc
  have HG := Lib.hid hg
  have HC := Lib.hid hcost
  have HOB := Lib.hid hob
  have lob := lt_of_block hob
  clear hT hb0 hg hcost gc hob hq
  go_enter Try.func59, Try.ntmps59
  go_wp2_with fail
  refine GC.out.mono ?_
  rintro e w1 ⟨g, rfl, hr, hb1⟩
  have sc := ser_calls (.node t d ks) w1 _ g hr (fun b hb => hb.2) HG.out HC.out
  have hsz1 := hb1.size
  have HB1 := Lib.hid hb1
  have SC := Lib.hid sc
  clear hr hb1 sc
  go_wp2_with fail
  refine SC.out.mono ?_
  rintro e w2 ⟨v2, rfl, hown2, hb2⟩
  rw [← HQ.out] at hown2
  obtain ⟨A2, c2, rfl, hc2, hr2, hn2⟩ := Rd.of_own hown2
  have HR2 := Lib.hid hr2
  have HN2 := Lib.hid hn2
  have HB2 := Lib.hid (below_trans HB1.out hb2)
  clear hown2 hb2 hr2 hn2
  go_wp2_with fail
  refine (clone_bytes A2 q c2 (bytesC (attrB (.node t d ks))) w2 HR2.out (by rw [bytesC_length]; exact HQ.out.symm) (by omega) (bytesC_one _) (fun h => (HN2.out h).1)).mono ?_
  rintro e w3 ⟨v3, rfl, hown3, -, hb3⟩
  obtain ⟨A3, c3, rfl, -, -, -⟩ := Rd.of_own hown3
  have B3 := below_trans HB2.out hb3
  have hob3 := (B3.block ob lob).trans HOB.out
  have cc := cell_of_one hob3
  have ff := free_of_one hob3
  have HB3 := Lib.hid B3
  have HO3 := Lib.hid hown3
  have HOB3 := Lib.hid hob3
  have hsz2 := HB2.out.size
  clear hown3 hb3 B3 hob3
  go_wp2_with fail
  go_ret
  refine ⟨rfl, grown_store HB3.out ob _, _, one_setCell HOB3.out, ?_⟩
  rw [← HQ.out]
  refine ownsRow_setCell_other (own_lower HO3.out hsz2) (fun e => ?_) _
  have := (HO3.out.lt _ e).1
  simp at this
  omega

set_option maxHeartbeats 1000000 in
set_option maxRecDepth 100000 in
theorem implAttribute_calls (T : Tree) (a b c : Value) (w0 w : World) (hT : XAt w0 w0 (fun _ => True) a b c T) (hb0 : Below w0.heap.size w0 w) (hg : Good T) (hcost : cost T ≤ 4000) :
    Calls Try.prog 30 #[.agg #[a, b, c]] w fun e w' => ∃ v, e = .returned (.tuple #[v, .bool true]) ∧ w'.ownsRow w.heap.size 5 1 v (attrB T).length (bytesC (attrB T)) ∧ Below w.heap.size w w' := by
  have hmf : ∀ (fn : Fn) (first cap : Array Value) (w : World), (Instr.makeFunc fn first cap).run Try.prog w = .ok (.func fn first cap) w := fun _ _ _ _ => rfl
  have HT := Lib.hid hT
  have HG := Lib.hid hg
  have HC := Lib.hid hcost
  have HB0 := Lib.hid hb0
  obtain ⟨t, d, ks⟩ := T
  obtain ⟨A, k1, A', k2, rfl, rfl, rfl, -⟩ := XAt.shape hT
  have hbs := hb0.size
  clear hT hb0 hg hcost
  go_enter Try.func30, Try.ntmps30
  go_wp2_with fail
  refine (try_calls 59 _ _ (some (w.heap.size + 1)) true (OutRow (w.heap.size + 1) (w.heap.size + 3) 31 5 (attrB (.node t d ks)).length (bytesC (attrB (.node t d ks)))) (fun w => Try.enter59 _ w) (by simp) ?cl ?post).mono ?_
  case cl =>
    refine (attr1_calls w0 (.node t d ks) w.heap.size (w.heap.size + 1) _ _ _ _ HT.out (HB0.out.trans ((below3 w _ _ _).mono hbs)) HG.out HC.out (Three.below (Three.below (three_new w _ _ _ _) ((Below.refl _ _).alloc (Nat.le_refl _) _)) ((Below.refl _ _).alloc (Nat.le_refl _) _)) (alloc_at3' _ _ _ _)).mono ?_
    rintro e w' ⟨rfl, hg, v, hv, ho⟩
    exact ⟨rfl, hg, v, hv, by simpa using ho⟩
  case post =>
    intro w' h
    exact h.far (by simp) (by simp) _
  rintro e w1 ⟨rfl, hg, v, hv, hown⟩
  have B1 : Below w.heap.size w w1 := below_grown (below2 _ _ _) hg (by intro k hk; simp at hk; omega)
  obtain ⟨A1, k, rfl, -, -, -⟩ := Rd.of_own hown
  have cc := cell_of_one hv
  have ff := free_of_one hv
  have HV := Lib.hid hv
  have HO := Lib.hid hown
  have HB := Lib.hid B1
  obtain ⟨q, hq⟩ : ∃ q, q = (attrB (.node t d ks)).length := ⟨_, rfl⟩
  clear hg hv hown B1
  go_wp2_with fail
  have cc2 := cell_of_one (one_setCell (u := .slice A1 (attrB (.node t d ks)).length k) HV.out)
  refine bodyPost_ret (v := .tuple #[.slice A1 (attrB (.node t d ks)).length k, .bool true]) (by simp [results, Try.results30, go_sem, cc2]) rfl ⟨_, rfl, ?_, ?_⟩
  · refine ownsRow_setCell_other (own_lower HO.out (by omega)) (fun e => ?_) _
    have := (HO.out.lt _ e).1
    simp at this
  · exact HB.out.setCell (by simp) _
end Go.Proofs.Ytbogknjgjbhagaa
