/- What an argument's reading says of its memory: bytes, and lists of records of a number and bytes. -/
import Derived.Test.YtbogknjgjbhagaaPrs
import Derived.WalkKit
import Derived.ProofKit
import Derived.OpenShut
import Derived.ShutString
import Derived.ChangeOld
import Derived.Below
import Derived.Deep.SlicePairs
namespace Go.Proofs.Ytbogknjgjbhagaa
open Go.ChangeShapes Go.WideShapes Go.ChangeAt Go.RowKit

theorem wf8 {n : Int} (h : (Lit.int .u8 n).wf = true) : 0 ≤ n ∧ n < 256 := by
  simp [Lit.wf, IntKind.min, IntKind.max, IntKind.bits, IntKind.signed] at h
  omega

/-- A cell's place has no spot. -/
theorem plain_addr {w : World} {a : Addr} {u : Value} (h : w.cell? (a.add 0) = some u) : ∃ b o, a = ⟨b, o, none⟩ ∧ ∀ j, a.add j = ⟨b, o + j, none⟩ := by
  obtain ⟨b, off, spot⟩ := a
  have hspot : spot = none := by simpa [Addr.add] using World.cell?_spot h
  subst hspot
  exact ⟨b, off, rfl, fun j => by rw [Addr.add_lit]⟩

theorem open_bytes {H : Type} {enc : TypeId × Value → H} {w : World} {base : Nat} {spare : Nat → Bool} {held : Bool} {fuel : Nat} {v : Value} {x : DataW H × List MemPlace} (h : DataW.trod enc Try.prog w base spare held fuel 31 [v] = some x) :
    ∃ d, BytesAt w v d ∧ AllB d ∧ d.length ≤ 9223372036854775807 := by
  rcases open_ints Try.underlying31 Try.underlying5 (by kernel_rfl) h with ⟨hcs, _⟩ | ⟨a, l, c, zs, hcs, _, hl, hm, hz, _, hcell, hwz⟩
  · obtain rfl : v = .slice none 0 0 := by simpa using hcs
    exact ⟨[], ⟨none, 0, rfl, Nat.le_refl _, Rd.nil _ _, fun _ => rfl⟩, (by intro y hy; cases hy), by simp⟩
  · obtain rfl : v = .slice (some a) l c := by simpa using hcs
    unfold maxLen at hm
    have hzl : l ≤ zs.length := by rw [hz]; split <;> omega
    have hd : (zs.take l).length = l := by simp; omega
    refine ⟨zs.take l, ⟨some a, c, by rw [hd], by omega, fun hne => ?_, fun e => by cases e⟩, fun y hy => wf8 (hwz y (List.mem_of_mem_take hy)), by omega⟩
    have hl0 : 0 < zs.length := by
      rcases Nat.eq_zero_or_pos zs.length with h0 | h0
      · exfalso
        have : zs = [] := List.eq_nil_of_length_eq_zero h0
        subst this
        exact hne (by simp [bytesC])
      · exact h0
    obtain ⟨b, o, rfl, hc⟩ := ints_at hcell hl0
    refine ⟨b, o, rfl, fun j u hj => ?_⟩
    have hjl : j < l := by
      have := (List.getElem?_eq_some_iff.1 hj).1
      rw [bytesC_length, hd] at this; exact this
    have e : (bytesC (zs.take l))[j]? = some (.int .u8 (zs.getD j 0)) := by
      simp [bytesC, List.getD_eq_getElem?_getD, hjl, List.getElem?_eq_getElem (show j < zs.length by omega)]
    rw [e] at hj
    rw [hc j (by omega)]
    exact hj

theorem open_pairs {H : Type} {enc : TypeId × Value → H} {w : World} {base : Nat} {spare : Nat → Bool} {held : Bool} {fuel : Nat} {v : Value} {x : DataW H × List MemPlace} (h : DataW.trod enc Try.prog w base spare held fuel 41 [v] = some x) :
    ∃ l, PairsV w v l ∧ LenOk l ∧ ∀ y ∈ l, AllB y.2 := by
  rcases Go.Deep.open_slice_pairs Try.underlying41 Try.underlying52 (by kernel_rfl) rfl rfl (by kernel_rfl) (by kernel_rfl) h with ⟨hcs, _⟩ | ⟨a, len, cap, m, n, V0, V1, D0, D1, P0, P1, hcs, _, hl, hm, hmm, _, hcell⟩
  · obtain rfl : v = .slice none 0 0 := by simpa using hcs
    exact ⟨[], ⟨[], none, 0, rfl, Nat.le_refl _, Rd.nil _ _, fun _ => rfl, by simp [Match]⟩, ⟨by simp, (fun y hy => by cases hy)⟩, (fun y hy => by cases hy)⟩
  · obtain rfl : v = .slice (some a) len cap := by simpa using hcs
    unfold maxLen at hm
    have hml : len ≤ m := by rw [hmm]; split <;> omega
    have each : ∀ i, ∃ y : Int × List Int, i < len → V0 i = .int .i64 y.1 ∧ BytesAt w (V1 i) y.2 ∧ AllB y.2 ∧ y.2.length ≤ 9223372036854775807 := fun i => by
      by_cases hi : i < len
      · obtain ⟨-, -, h0, h1⟩ := hcell i (by omega)
        obtain ⟨z, hz, -, -⟩ := DataW.trod_int Try.underlying3 h0
        obtain ⟨d, hd1, hd2, hd3⟩ := open_bytes h1
        exact ⟨(z, d), fun _ => ⟨by simpa using hz, hd1, hd2, hd3⟩⟩
      · exact ⟨(0, []), fun h => absurd h hi⟩
    obtain ⟨f, hf⟩ := Classical.axiomOfChoice each
    have hln : ((List.range len).map f).length = len := by simp
    refine ⟨(List.range len).map f, ⟨(List.range len).map fun i => ((f i).1, V1 i), some a, cap, by rw [hln], by rw [hln]; exact hl, fun hne => ?_, (fun e => by cases e), by simp, fun k p y h1 h2 => ?_⟩, ⟨by rw [hln]; omega, fun y hy => ?_⟩, fun y hy => ?_⟩
    · have h0 : 0 < len := by
        rcases Nat.eq_zero_or_pos len with h0 | h0
        · exfalso; subst h0; exact hne (by simp [fl])
        · exact h0
      obtain ⟨b, o, rfl, hadd⟩ := plain_addr (hcell 0 (by omega)).1
      refine ⟨b, o, rfl, fun j u hj => ?_⟩
      have hjl : j < len * 2 := by
        have := (List.getElem?_eq_some_iff.1 hj).1
        rw [fl_length pairH 2 pairH_length] at this; simpa using this
      have hi : j / 2 < len := by omega
      have e : ((List.range len).map fun i => ((f i).1, V1 i))[j / 2]? = some ((f (j / 2)).1, V1 (j / 2)) := by simp [List.getElem?_map, List.getElem?_range hi]
      have hg := fl_get pairH 2 pairH_length _ (j / 2) (j % 2) _ e (by omega)
      rw [show j / 2 * 2 + j % 2 = j from by omega, hj] at hg
      obtain ⟨c0, c1, -, -⟩ := hcell (j / 2) (by omega)
      rw [hadd] at c0 c1
      have hv0 := (hf (j / 2) hi).1
      rcases (show j % 2 = 0 ∨ j % 2 = 1 by omega) with h2 | h2
      · rw [h2] at hg
        have hu : u = .int .i64 (f (j / 2)).1 := by simpa [pairH] using hg
        rw [hu, ← hv0, show j = j / 2 * 2 from by omega, Nat.mul_div_cancel _ (by decide)]
        exact c0
      · rw [h2] at hg
        have hu : u = V1 (j / 2) := by simpa [pairH] using hg
        rw [hu]
        rw [show o + j = o + (j / 2 * 2 + 1) from by omega]
        exact c1
    · have hk : k < len := by
        have := (List.getElem?_eq_some_iff.1 h2).1
        simpa using this
      simp [List.getElem?_map, List.getElem?_range hk] at h1 h2
      subst h1 h2
      exact ⟨rfl, (hf k hk).2.1⟩
    · simp only [List.mem_map, List.mem_range] at hy
      obtain ⟨i, hi, rfl⟩ := hy
      exact (hf i hi).2.2.2
    · simp only [List.mem_map, List.mem_range] at hy
      obtain ⟨i, hi, rfl⟩ := hy
      exact (hf i hi).2.2.1
end Go.Proofs.Ytbogknjgjbhagaa
