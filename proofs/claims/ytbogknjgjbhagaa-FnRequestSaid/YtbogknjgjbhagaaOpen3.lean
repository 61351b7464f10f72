/- What an argument's reading says of its memory: a list of attributes with others within. -/
import Derived.Test.YtbogknjgjbhagaaOpen2
namespace Go.Proofs.Ytbogknjgjbhagaa
open Go.ChangeShapes Go.WideShapes Go.ChangeAt Go.RowKit

set_option maxRecDepth 100000 in
theorem open_nodes {H : Type} {enc : TypeId × Value → H} {w : World} {base : Nat} {spare : Nat → Bool} {held : Bool} {fuel : Nat} {v : Value} {x : DataW H × List MemPlace} (h : DataW.trod enc Try.prog w base spare held fuel 54 [v] = some x) :
    ∃ l A n, v = .slice A l.length n ∧ l.length ≤ 9223372036854775807 ∧ (l ≠ [] → ∃ bb o, A = some ⟨bb, o, none⟩ ∧ XsAt w w (fun _ => True) bb o l) := by
  have hc3 : Try.prog.cellsOf 56 = 3 := by kernel_rfl
  rcases DataW.trod_slice Try.underlying54 h with ⟨hcs, _⟩ | ⟨ad, len, cap, elems, rest, m, hm, hcs, _, _, hlc, hcm, hel, hat, _, _⟩
  · obtain rfl : v = .slice none 0 0 := by simpa using hcs
    exact ⟨[], none, 0, rfl, by simp, fun h => absurd rfl h⟩
  · obtain rfl : v = .slice (some ad) len cap := by simpa using hcs
    unfold maxLen at hcm
    have each : ∀ i, ∃ T : Tree, i < len → ∃ x y z, w.cell? ((ad.add (i * 3)).add 0) = some x ∧ w.cell? ((ad.add (i * 3)).add 1) = some y ∧ w.cell? ((ad.add (i * 3)).add 2) = some z ∧ XAt w w (fun _ => True) x y z T := fun i => by
      by_cases hi : i < len
      · have hb := hat i hi
        rw [hc3, List.getElem?_eq_getElem (by omega), Option.bind_eq_some_iff] at hb
        obtain ⟨cs', hcs', htr⟩ := hb
        obtain ⟨x, y, z, T, e, hX⟩ := open_node m cs' _ htr
        obtain ⟨x', y', z', e', q0, q1, q2⟩ := cells3 hcs'
        rw [e] at e'
        injection e' with e1 e2
        injection e2 with e2 e3
        injection e3 with e3 _
        exact ⟨T, fun _ => ⟨x, y, z, by rw [e1]; exact q0, by rw [e2]; exact q1, by rw [e3]; exact q2, hX⟩⟩
      · exact ⟨.node 0 [] [], fun h => absurd h hi⟩
    obtain ⟨f, hff⟩ := Classical.axiomOfChoice each
    have hln : ((List.range len).map f).length = len := by simp
    refine ⟨(List.range len).map f, some ad, cap, by rw [hln], by rw [hln]; omega, fun hne => ?_⟩
    have hl0 : 0 < len := by
      rcases Nat.eq_zero_or_pos len with h0 | h0
      · exfalso; subst h0; exact hne (by simp)
      · exact h0
    obtain ⟨x, y, z, q0, -⟩ := hff 0 hl0
    obtain ⟨bb, o, rfl, hadd⟩ := plain_addr (a := ad) (u := x) (by simpa [Addr.add] using q0)
    refine ⟨bb, o, rfl, ?_⟩
    have key : ∀ (l : List Tree) (k : Nat), (∀ j (h : j < l.length), ∃ x y z, w.cell? ⟨bb, o + (k + j) * 3, none⟩ = some x ∧ w.cell? ⟨bb, o + (k + j) * 3 + 1, none⟩ = some y ∧ w.cell? ⟨bb, o + (k + j) * 3 + 2, none⟩ = some z ∧ XAt w w (fun _ => True) x y z l[j]) → XsAt w w (fun _ => True) bb (o + k * 3) l := by
      intro l
      induction l with
      | nil => intro k _; simp only [XsAt]
      | cons T r ihl =>
        intro k hk
        simp only [XsAt]
        obtain ⟨x0, y0', z0, s0, s1, s2, s3⟩ := hk 0 (by simp)
        refine ⟨⟨x0, y0', z0, s0, s1, s2, s3⟩, ?_⟩
        rw [show o + k * 3 + 3 = o + (k + 1) * 3 from by omega]
        exact ihl (k + 1) (fun j hj => by
          have := hk (j + 1) (by simpa using hj)
          rw [show k + (j + 1) = k + 1 + j from by omega] at this
          simpa using this)
    have := key ((List.range len).map f) 0 (fun j hj => by
      have hjl : j < len := by simpa using hj
      obtain ⟨x, y, z, r0, r1, r2, r3⟩ := hff j hjl
      simp only [hadd, Addr.add_lit, Nat.add_zero] at r0 r1 r2
      refine ⟨x, y, z, ?_, ?_, ?_, ?_⟩
      · simpa using r0
      · simpa using r1
      · simpa using r2
      · simpa using r3)
    simpa using this
end Go.Proofs.Ytbogknjgjbhagaa
