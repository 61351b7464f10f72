/- Whatever kind, flags, number, attributes and raw bytes come in: if they are ones that are compared, the package's bytes of the request are the reference's; the answer is true and the arguments read as before. No condition. -/
import Derived.Test.YtbogknjgjbhagaaRows
import Derived.Test.YtbogknjgjbhagaaReq5
import Derived.Test.YtbogknjgjbhagaaOpen3
namespace Go.Proofs.Ytbogknjgjbhagaa.fnRequest
open Go.ChangeShapes Go.WideShapes Go.ChangeAt Go.RowKit
open Go.ChangeMaps (open_string shut_string)
set_option linter.unusedVariables false

theorem own : ownKnob Try.prog.godebug = none := by kernel_rfl
theorem laidOut : laidOutB Try.prog = true := by kernel_rfl

theorem bd_u32 {x : Int} (h : (Lit.int .u32 x).wf = true) : 0 ≤ x ∧ x < 4294967296 := by
  simp only [Lit.wf, Bool.and_eq_true, decide_eq_true_eq] at h
  have hmin : IntKind.u32.min = 0 := rfl
  have hmax : IntKind.u32.max = 4294967295 := rfl
  omega
theorem bd_i64 {x : Int} (h : (Lit.int .i64 x).wf = true) : -9223372036854775808 ≤ x ∧ x ≤ 9223372036854775807 := by
  simp only [Lit.wf, Bool.and_eq_true, decide_eq_true_eq] at h
  have hmin : IntKind.i64.min = -9223372036854775808 := rfl
  have hmax : IntKind.i64.max = 9223372036854775807 := rfl
  omega

set_option maxRecDepth 100000 in
theorem lifted (os : Os) (started : os.Started) (H : Type) (enc : TypeId × Value → H) :
    ReturnsInHanded {} Try.checked os 8 .any (Rows.fnRequestSpec.pre6 enc Try.prog Try.f8 Rows.fnRequestRow.domain false) (Rows.fnRequestSpec.post enc Try.prog Try.f8 false true false false) := by
  refine returnsInHanded_of_change (C := Try.checked) own started (by kernel_rfl) Try.func8
    (ChangeSpec.witness6 (enc := enc) (C := Try.checked) false ⟨#[], #[.int .i64 0, .int .i64 0, .int .u32 0, .slice none 0 0, .slice none 0 0], []⟩ 8 (by kernel_rfl) (by kernel_rfl) (by kernel_rfl) (by kernel_rfl)) ?_
  intro W base args ds gs before hval0 hW hcnd _
  have hval : ∀ (j : Nat) t v, Try.f8.params[j]? = some t → args[j]? = some v → Value.okWide Try.prog W .any base t v := hval0
  have hW' := hW
  obtain ⟨p, q, hA0, hV, rfl, hfz, hnd⟩ := hW
  have hA : DataW.TrodAll enc Try.prog W 0 (fun _ => true) true Try.f8.params.toList args.toList ds p := hA0
  rw [Try.params8] at hA hval
  obtain ⟨v0, vs0, d0, ds0, p0, q0, hargs, rfl, rfl, h0, r0⟩ := trodAll_cons hA
  obtain ⟨v1, vs1, d1, ds1, p1, q1, rfl, rfl, rfl, h1, r1⟩ := trodAll_cons r0
  obtain ⟨v2, vs2, d2, ds2, p2, q2, rfl, rfl, rfl, h2, r2⟩ := trodAll_cons r1
  obtain ⟨v3, vs3, d3, ds3, p3, q3, rfl, rfl, rfl, h3, r3⟩ := trodAll_cons r2
  obtain ⟨v4, vs4, d4, ds4, p4, q4, rfl, rfl, rfl, h4, r4⟩ := trodAll_cons r3
  obtain ⟨rfl, rfl, rfl⟩ := trodAll_nil r4
  obtain rfl : args = #[v0, v1, v2, v3, v4] := by cases args; simp_all
  obtain ⟨rfl, rfl⟩ := trodVars_none hV
  obtain ⟨a0, rfl, rfl, rfl, w0⟩ := open_int Try.underlying3 (hval 0 3 v0 rfl rfl) h0
  obtain ⟨a1, rfl, rfl, rfl, w1⟩ := open_int Try.underlying3 (hval 1 3 v1 rfl rfl) h1
  obtain ⟨a2, rfl, rfl, rfl, w2⟩ := open_int Try.underlying23 (hval 2 23 v2 rfl rfl) h2
  obtain ⟨a3, len3, cap3, rfl⟩ := okWide_slice Try.underlying54 (hval 3 54 v3 rfl rfl)
  obtain ⟨a4, len4, cap4, rfl⟩ := okWide_slice Try.underlying31 (hval 4 31 v4 rfl rfl)
  have k3 := h3
  have k4 := h4
  have lt3 : ∀ x ∈ p3, x.block < W.heap.size := by obtain ⟨m, hm⟩ := k3; exact DataW.trod_lt m _ _ _ hm
  have lt4 : ∀ x ∈ p4, x.block < W.heap.size := by obtain ⟨m, hm⟩ := k4; exact DataW.trod_lt m _ _ _ hm
  obtain ⟨l, A3, n3, e3, hl1, hl2⟩ : ∃ l A n, Value.slice a3 len3 cap3 = .slice A l.length n ∧ l.length ≤ 9223372036854775807 ∧ (l ≠ [] → ∃ bb o, A = some ⟨bb, o, none⟩ ∧ XsAt W W (fun _ => True) bb o l) := by
    obtain ⟨fuel, hf⟩ := h3
    exact open_nodes (by simpa [Value.cells] using hf)
  injection e3 with e31 e32 e33
  subst e31 e32 e33
  obtain ⟨d, hd1, hd2, hd3⟩ : ∃ d, BytesAt W (.slice a4 len4 cap4) d ∧ AllB d ∧ d.length ≤ 9223372036854775807 := by
    obtain ⟨fuel, hf⟩ := h4
    exact open_bytes (by simpa [Value.cells] using hf)
  obtain rfl : len4 = d.length := by
    obtain ⟨A', c', e, -⟩ := hd1
    injection e
  clear hA0 hval0
  refine (fnRequest_calls a0 a1 a2 a3 cap3 l a4 cap4 d W hl2 hl1 hd1 hd3 (bd_i64 w0) (bd_i64 w1) (bd_u32 w2)).mono fun e W' ⟨he, bel⟩ => ?_
  subst he
  exact ⟨_, rfl, _, _, _, [], _, [], hW', trodAll_mk1 (shut_bool Try.underlying4 _), (trodAll_cons_mk (shut_int Try.underlying3 w0) (trodAll_cons_mk (shut_int Try.underlying3 w1) (trodAll_cons_mk (shut_int Try.underlying23 w2) (trodAll_cons_mk (Below.trod laidOut (by kernel_rfl) (of_decide_eq_true (by kernel_rfl)) k3 bel lt3) (trodAll_cons_mk (Below.trod laidOut (by kernel_rfl) (of_decide_eq_true (by kernel_rfl)) k4 bel lt4) trodAll_mk0))))), rfl, bel.frame _, fun h => by cases h⟩

theorem over : Rows.fnRequestRow.holds Try.pinned (OpenSpec.ofChange Rows.fnRequestSpec) :=
  OpenClaim.holds_of_wide 8 Try.f8 rfl rfl rfl rfl rfl rfl rfl ⟨rfl, rfl, rfl, rfl, rfl⟩ rfl rfl rfl rfl rfl (by kernel_rfl) Try.func8 (by kernel_rfl)
    (of_decide_eq_true (by kernel_rfl)) (by unfold Func.isWrapper; first | (rw [if_pos (by decide +kernel)]; kernel_rfl) | (rw [if_neg (by decide +kernel)]; exact ⟨rfl, rfl⟩))
    (fun os started H enc _ => lifted os started H enc)

theorem proved : Rows.FnRequestSaid := over
#print axioms proved
end Go.Proofs.Ytbogknjgjbhagaa.fnRequest
namespace Go.Proofs.Ytbogknjgjbhagaa
/-- The row, under a short name, for the claim. -/
theorem fnRequest_holds : Rows.FnRequestSaid := fnRequest.proved
end Go.Proofs.Ytbogknjgjbhagaa
