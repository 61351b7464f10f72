/- Whatever kind and whatever numbers come in: if they are those of a structure, the package's bytes of it are the reference's and are read as these numbers; the answer is true and the arguments read as before. No condition. -/
import Derived.Test.YtbogknjgjbhagaaRows
import Derived.Test.YtbogknjgjbhagaaStrW
import Derived.Test.YtbogknjgjbhagaaOpen4
namespace Go.Proofs.Ytbogknjgjbhagaa.fnStructure
open Go.ChangeShapes Go.WideShapes Go.ChangeAt Go.RowKit
open Go.ChangeMaps (open_string shut_string)
set_option linter.unusedVariables false

theorem own : ownKnob Try.prog.godebug = none := by kernel_rfl
theorem laidOut : laidOutB Try.prog = true := by kernel_rfl

set_option maxRecDepth 100000 in
theorem lifted (os : Os) (started : os.Started) (H : Type) (enc : TypeId × Value → H) :
    ReturnsInHanded {} Try.checked os 9 .any (Rows.fnStructureSpec.pre6 enc Try.prog Try.f9 Rows.fnStructureRow.domain false) (Rows.fnStructureSpec.post enc Try.prog Try.f9 false true false false) := by
  refine returnsInHanded_of_change (C := Try.checked) own started (by kernel_rfl) Try.func9
    (ChangeSpec.witness6 (enc := enc) (C := Try.checked) false ⟨#[], #[.int .i64 0, .slice none 0 0], []⟩ 8 (by kernel_rfl) (by kernel_rfl) (by kernel_rfl) (by kernel_rfl)) ?_
  intro W base args ds gs before hval0 hW hcnd _
  have hval : ∀ (j : Nat) t v, Try.f9.params[j]? = some t → args[j]? = some v → Value.okWide Try.prog W .any base t v := hval0
  have hW' := hW
  obtain ⟨p, q, hA0, hV, rfl, hfz, hnd⟩ := hW
  have hA : DataW.TrodAll enc Try.prog W 0 (fun _ => true) true Try.f9.params.toList args.toList ds p := hA0
  rw [Try.params9] at hA hval
  obtain ⟨v0, vs0, d0, ds0, p0, q0, hargs, rfl, rfl, h0, r0⟩ := trodAll_cons hA
  obtain ⟨v1, vs1, d1, ds1, p1, q1, rfl, rfl, rfl, h1, r1⟩ := trodAll_cons r0
  obtain ⟨rfl, rfl, rfl⟩ := trodAll_nil r1
  obtain rfl : args = #[v0, v1] := by cases args; simp_all
  obtain ⟨rfl, rfl⟩ := trodVars_none hV
  obtain ⟨a0, rfl, rfl, rfl, w0⟩ := open_int Try.underlying3 (hval 0 3 v0 rfl rfl) h0
  obtain ⟨a1, len1, cap1, rfl⟩ := okWide_slice Try.underlying69 (hval 1 69 v1 rfl rfl)
  have k1 := h1
  have lt1 : ∀ x ∈ p1, x.block < W.heap.size := by obtain ⟨m, hm⟩ := k1; exact DataW.trod_lt m _ _ _ hm
  obtain ⟨l, A, c, e1, hl1, hl2, hl3, hl4⟩ : ∃ d A c, Value.slice a1 len1 cap1 = .slice A d.length c ∧ Rd W A (u64C d) ∧ (A = none → d = []) ∧ (∀ x ∈ d, 0 ≤ x ∧ x < 18446744073709551616) ∧ d.length ≤ 9223372036854775807 := by
    obtain ⟨fuel, hf⟩ := h1
    exact open_u64s (by simpa [Value.cells] using hf)
  injection e1 with e11 e12 e13
  subst e11 e12 e13
  clear hA0 hval0
  refine (fnStructure_calls a0 a1 cap1 l W hl1 hl2 hl3 hl4).mono fun e W' ⟨he, bel⟩ => ?_
  subst he
  exact ⟨_, rfl, _, _, _, [], _, [], hW', trodAll_mk1 (shut_bool Try.underlying4 _), (trodAll_cons_mk (shut_int Try.underlying3 w0) (trodAll_cons_mk (Below.trod laidOut (by kernel_rfl) (of_decide_eq_true (by kernel_rfl)) k1 bel lt1) trodAll_mk0)), rfl, bel.frame _, fun h => by cases h⟩

theorem over : Rows.fnStructureRow.holds Try.pinned (OpenSpec.ofChange Rows.fnStructureSpec) :=
  OpenClaim.holds_of_wide 9 Try.f9 rfl rfl rfl rfl rfl rfl rfl ⟨rfl, rfl, rfl, rfl, rfl⟩ rfl rfl rfl rfl rfl (by kernel_rfl) Try.func9 (by kernel_rfl)
    (of_decide_eq_true (by kernel_rfl)) (by unfold Func.isWrapper; first | (rw [if_pos (by decide +kernel)]; kernel_rfl) | (rw [if_neg (by decide +kernel)]; exact ⟨rfl, rfl⟩))
    (fun os started H enc _ => lifted os started H enc)

theorem proved : Rows.FnStructureSaid := over
#print axioms proved
end Go.Proofs.Ytbogknjgjbhagaa.fnStructure
namespace Go.Proofs.Ytbogknjgjbhagaa
/-- The row, under a short name, for the claim. -/
theorem fnStructure_holds : Rows.FnStructureSaid := fnStructure.proved
end Go.Proofs.Ytbogknjgjbhagaa
