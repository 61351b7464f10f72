/- Whatever attribute comes in, of whatever depth: if it is one that is compared, the package's bytes of it are the reference's; the answer is true and the argument reads as before. No condition. -/
import Derived.Test.YtbogknjgjbhagaaRows
import Derived.Test.YtbogknjgjbhagaaAtt9
import Derived.Test.YtbogknjgjbhagaaOpen2
namespace Go.Proofs.Ytbogknjgjbhagaa.fnAttribute
open Go.ChangeShapes Go.WideShapes Go.ChangeAt Go.RowKit
open Go.ChangeMaps (open_string shut_string)
set_option linter.unusedVariables false

theorem own : ownKnob Try.prog.godebug = none := by kernel_rfl
theorem laidOut : laidOutB Try.prog = true := by kernel_rfl

set_option maxRecDepth 100000 in
theorem lifted (os : Os) (started : os.Started) (H : Type) (enc : TypeId × Value → H) :
    ReturnsInHanded {} Try.checked os 7 .any (Rows.fnAttributeSpec.pre6 enc Try.prog Try.f7 Rows.fnAttributeRow.domain false) (Rows.fnAttributeSpec.post enc Try.prog Try.f7 false true false false) := by
  refine returnsInHanded_of_change (C := Try.checked) own started (by kernel_rfl) Try.func7
    (ChangeSpec.witness6 (enc := enc) (C := Try.checked) false ⟨#[], #[.agg #[.int .i64 0, .slice none 0 0, .slice none 0 0]], []⟩ 8 (by kernel_rfl) (by kernel_rfl) (by kernel_rfl) (by kernel_rfl)) ?_
  intro W base args ds gs before hval0 hW hcnd _
  have hval : ∀ (j : Nat) t v, Try.f7.params[j]? = some t → args[j]? = some v → Value.okWide Try.prog W .any base t v := hval0
  have hW' := hW
  obtain ⟨p, q, hA0, hV, rfl, hfz, hnd⟩ := hW
  have hA : DataW.TrodAll enc Try.prog W 0 (fun _ => true) true Try.f7.params.toList args.toList ds p := hA0
  rw [Try.params7] at hA hval
  obtain ⟨v0, vs0, d0, ds0, p0, q0, hargs, rfl, rfl, h0, r0⟩ := trodAll_cons hA
  obtain ⟨rfl, rfl, rfl⟩ := trodAll_nil r0
  obtain rfl : args = #[v0] := by cases args; simp_all
  obtain ⟨rfl, rfl⟩ := trodVars_none hV
  obtain ⟨cs0, rfl, hcs0⟩ := okWide_struct Try.underlying56 (hval 0 56 v0 rfl rfl)
  have k0 := h0
  have lt0 : ∀ x ∈ p0, x.block < W.heap.size := by obtain ⟨m, hm⟩ := k0; exact DataW.trod_lt m _ _ _ hm
  obtain ⟨a, b, c, T, hcs, hX⟩ : ∃ a b c T, cs0 = #[a, b, c] ∧ XAt W W (fun _ => True) a b c T := by
    obtain ⟨fuel, hf⟩ := h0
    obtain ⟨a, b, c, T, e, hX⟩ := open_node fuel _ _ hf
    exact ⟨a, b, c, T, Array.ext' (by simpa [Value.cells] using e), hX⟩
  subst hcs
  clear hA0 hval0
  refine (fnAttribute_calls T a b c W hX).mono fun e W' ⟨he, bel⟩ => ?_
  subst he
  exact ⟨_, rfl, _, _, _, [], _, [], hW', trodAll_mk1 (shut_bool Try.underlying4 _), (trodAll_cons_mk (Below.trod laidOut (by kernel_rfl) (of_decide_eq_true (by kernel_rfl)) k0 bel lt0) trodAll_mk0), rfl, bel.frame _, fun h => by cases h⟩

theorem over : Rows.fnAttributeRow.holds Try.pinned (OpenSpec.ofChange Rows.fnAttributeSpec) :=
  OpenClaim.holds_of_wide 7 Try.f7 rfl rfl rfl rfl rfl rfl rfl ⟨rfl, rfl, rfl, rfl, rfl⟩ rfl rfl rfl rfl rfl (by kernel_rfl) Try.func7 (by kernel_rfl)
    (of_decide_eq_true (by kernel_rfl)) (by unfold Func.isWrapper; first | (rw [if_pos (by decide +kernel)]; kernel_rfl) | (rw [if_neg (by decide +kernel)]; exact ⟨rfl, rfl⟩))
    (fun os started H enc _ => lifted os started H enc)

theorem proved : Rows.FnAttributeSaid := over
#print axioms proved
end Go.Proofs.Ytbogknjgjbhagaa.fnAttribute
namespace Go.Proofs.Ytbogknjgjbhagaa
/-- The row, under a short name, for the claim. -/
theorem fnAttribute_holds : Rows.FnAttributeSaid := fnAttribute.proved
end Go.Proofs.Ytbogknjgjbhagaa
