/- What an argument's reading says of its memory: a list of numbers of 64 bits. -/
import Derived.Test.YtbogknjgjbhagaaOpen
import Derived.Test.YtbogknjgjbhagaaStrS
namespace Go.Proofs.Ytbogknjgjbhagaa
open Go.ChangeShapes Go.WideShapes Go.ChangeAt Go.RowKit

theorem wf64u {n : Int} (h : (Lit.int .u64 n).wf = true) : 0 ≤ n ∧ n < 18446744073709551616 := by
  simp only [Lit.wf, Bool.and_eq_true, decide_eq_true_eq] at h
  have hmin : IntKind.u64.min = 0 := rfl
  have hmax : IntKind.u64.max = 18446744073709551615 := rfl
  omega

theorem open_u64s {H : Type} {enc : TypeId × Value → H} {w : World} {base : Nat} {spare : Nat → Bool} {held : Bool} {fuel : Nat} {v : Value} {x : DataW H × List MemPlace} (h : DataW.trod enc Try.prog w base spare held fuel 69 [v] = some x) :
    ∃ d A c, v = .slice A d.length c ∧ Rd w A (u64C d) ∧ (A = none → d = []) ∧ (∀ x ∈ d, 0 ≤ x ∧ x < 18446744073709551616) ∧ d.length ≤ 9223372036854775807 := by
  rcases open_ints Try.underlying69 Try.underlying35 (by kernel_rfl) h with ⟨hcs, _⟩ | ⟨a, l, c, zs, hcs, _, hl, hm, hz, _, hcell, hwz⟩
  · obtain rfl : v = .slice none 0 0 := by simpa using hcs
    exact ⟨[], none, 0, rfl, Rd.nil _ _, fun _ => rfl, (by intro y hy; cases hy), by simp⟩
  · obtain rfl : v = .slice (some a) l c := by simpa using hcs
    unfold maxLen at hm
    have hzl : l ≤ zs.length := by rw [hz]; split <;> omega
    have hd : (zs.take l).length = l := by simp; omega
    refine ⟨zs.take l, some a, c, by rw [hd], fun hne => ?_, fun e => (by cases e), fun y hy => wf64u (hwz y (List.mem_of_mem_take hy)), by omega⟩
    have hl0 : 0 < zs.length := by
      rcases Nat.eq_zero_or_pos zs.length with h0 | h0
      · exfalso
        have : zs = [] := List.eq_nil_of_length_eq_zero h0
        subst this
        exact hne (by simp [u64C])
      · exact h0
    obtain ⟨b, o, rfl, hc⟩ := ints_at hcell hl0
    refine ⟨b, o, rfl, fun j u hj => ?_⟩
    have hjl : j < l := by
      have := (List.getElem?_eq_some_iff.1 hj).1
      rw [u64C, List.length_map, hd] at this; exact this
    have e : (u64C (zs.take l))[j]? = some (.int .u64 (zs.getD j 0)) := by
      simp [u64C, List.getD_eq_getElem?_getD, hjl, List.getElem?_eq_getElem (show j < zs.length by omega)]
    rw [e] at hj
    rw [hc j (by omega)]
    exact hj
end Go.Proofs.Ytbogknjgjbhagaa
