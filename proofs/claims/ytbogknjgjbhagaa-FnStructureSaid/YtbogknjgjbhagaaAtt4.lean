/- The package's attributes as they lie in memory: each in a block of its own, its others behind a row of interfaces. -/
import Derived.Test.YtbogknjgjbhagaaAtt3
namespace Go.Proofs.Ytbogknjgjbhagaa
open Go.RowKit

def BytesF (w : World) (F : Nat → Prop) (v : Value) (d : List Int) : Prop := ∃ A c, v = .slice A d.length c ∧ d.length ≤ c ∧ (A = none → d = []) ∧ (d ≠ [] → ∃ b o, A = some ⟨b, o, none⟩ ∧ F b ∧ ∀ j u, (bytesC d)[j]? = some u → w.cell? ⟨b, o + j, none⟩ = some u)
mutual
def RAt (w : World) (F : Nat → Prop) : Nat → Tree → Prop
  | p, .node t d ks => F p ∧ ∃ dv cv, w.heap[p]? = some (.cells #[.int .u16 0, .int .u16 t, dv, cv] 129 (0, 0)) ∧ BytesF w F dv d ∧
      ∃ A c, cv = .slice A ks.length c ∧ ks.length ≤ c ∧ (ks ≠ [] → ∃ bb o, A = some ⟨bb, o, none⟩ ∧ F bb ∧ KsAt w F bb o ks)
def KsAt (w : World) (F : Nat → Prop) : Nat → Nat → List Tree → Prop
  | _, _, [] => True
  | bb, o, x :: r => (∃ g, w.cell? ⟨bb, o, none⟩ = some (.iface 99 (.pointer (some ⟨g, 0, none⟩))) ∧ RAt w F g x) ∧ KsAt w F bb (o + 1) r
end
theorem BytesF.keep {w w' : World} {F F' : Nat → Prop} {v : Value} {d : List Int} (h : BytesF w F v d) (hk : ∀ g, F g → w'.heap[g]? = w.heap[g]? ∧ F' g) : BytesF w' F' v d := by
  obtain ⟨A, c, h1, h2, h3, h4⟩ := h
  refine ⟨A, c, h1, h2, h3, fun hne => ?_⟩
  obtain ⟨b, o, e, hF, hc⟩ := h4 hne
  exact ⟨b, o, e, (hk b hF).2, fun j u hj => (World.cell?_of_block (a := ⟨b, o + j, none⟩) (hk b hF).1).trans (hc j u hj)⟩
theorem BytesF.at_ {w : World} {F : Nat → Prop} {v : Value} {d : List Int} (h : BytesF w F v d) : BytesAt w v d := by
  obtain ⟨A, c, h1, h2, h3, h4⟩ := h
  refine ⟨A, c, h1, h2, fun hne => ?_, h3⟩
  obtain ⟨b, o, e, -, hc⟩ := h4 (by rintro rfl; exact hne rfl)
  exact ⟨b, o, e, hc⟩
mutual
theorem RAt.keep {w w' : World} {F F' : Nat → Prop} (hk : ∀ g, F g → w'.heap[g]? = w.heap[g]? ∧ F' g) : ∀ (T : Tree) (p : Nat), RAt w F p T → RAt w' F' p T
  | .node t d ks, p, h => by
    simp only [RAt] at h ⊢
    obtain ⟨h0, dv, cv, h1, h2, A, c, h3, h4, h5⟩ := h
    refine ⟨(hk p h0).2, dv, cv, (hk p h0).1.trans h1, h2.keep hk, A, c, h3, h4, fun hne => ?_⟩
    obtain ⟨bb, o, e, hF, hh⟩ := h5 hne
    exact ⟨bb, o, e, (hk bb hF).2, KsAt.keep hk ks bb o hF hh⟩
theorem KsAt.keep {w w' : World} {F F' : Nat → Prop} (hk : ∀ g, F g → w'.heap[g]? = w.heap[g]? ∧ F' g) : ∀ (l : List Tree) (bb o : Nat), F bb → KsAt w F bb o l → KsAt w' F' bb o l
  | [], _, _, _, _ => by simp only [KsAt]
  | x :: r, bb, o, hF, h => by
    simp only [KsAt] at h ⊢
    obtain ⟨⟨g, h1, h2⟩, h3⟩ := h
    exact ⟨⟨g, (World.cell?_of_block (a := ⟨bb, o, none⟩) (hk bb hF).1).trans h1, RAt.keep hk x g h2⟩, KsAt.keep hk r bb (o + 1) hF h3⟩
end
theorem KsAt.get {w : World} {F : Nat → Prop} : ∀ (l : List Tree) (bb o k : Nat) (h : k < l.length), KsAt w F bb o l → ∃ g, w.cell? ⟨bb, o + k, none⟩ = some (.iface 99 (.pointer (some ⟨g, 0, none⟩))) ∧ RAt w F g l[k]
  | x :: r, bb, o, 0, _, h => by simp only [KsAt] at h; simpa using h.1
  | x :: r, bb, o, k + 1, hk, h => by
    simp only [KsAt] at h
    have := KsAt.get r bb (o + 1) k (by simpa using hk) h.2
    rw [show o + (k + 1) = o + 1 + k from by omega]
    exact this
theorem RAt.shape {w : World} {F : Nat → Prop} {p : Nat} {t : Int} {d : List Int} {ks : List Tree} (h : RAt w F p (.node t d ks)) :
    ∃ A k A' k', F p ∧ w.heap[p]? = some (.cells #[.int .u16 0, .int .u16 t, .slice A d.length k, .slice A' ks.length k'] 129 (0, 0)) ∧ BytesF w F (.slice A d.length k) d ∧ (A = none → d = []) ∧ ks.length ≤ k' ∧ (ks ≠ [] → ∃ bb o, A' = some ⟨bb, o, none⟩ ∧ F bb ∧ KsAt w F bb o ks) := by
  simp only [RAt] at h
  obtain ⟨h0, dv, cv, h1, h2, A', k', rfl, h4, h5⟩ := h
  obtain ⟨A, k, rfl, r1, r2, r3⟩ := h2
  exact ⟨A, k, A', k', h0, h1, ⟨A, k, rfl, r1, r2, r3⟩, r2, h4, h5⟩

/-- The length that the package says. -/
def lenT : Tree → Int
  | .node _ d ks => ((d ++ attrsB ks).length : Int) + 4

theorem attrsB_mod : ∀ l : List Tree, (attrsB l).length % 4 = 0
  | [] => by simp [attrsB]
  | .node t d ks :: r => by
    have h1 := attrB_len t d ks
    have h2 := attrsB_mod r
    rw [attrsB, List.length_append]
    omega

def LenCalls (T : Tree) : Prop := ∀ (w : World) (F : Nat → Prop) (p : Nat), RAt w F p T → (∀ g, F g → g < w.heap.size) → Good T → cost T ≤ 4000 →
  Calls Try.prog 93 #[.pointer (some ⟨p, 0, none⟩)] w fun e w' => e = .returned (.int .i64 (lenT T)) ∧ w' = w

theorem lenT_align (T : Tree) (h : cost T ≤ 4000) : (lenT T + 3) / 4 * 4 = ((attrB T).length : Int) ∧ 0 ≤ lenT T ∧ lenT T ≤ 4004 := by
  obtain ⟨t, d, ks⟩ := T
  have h1 := attrB_len t d ks
  have h2 := attrsB_cost ks
  rw [cost] at h
  simp only [lenT, List.length_append]
  refine ⟨?_, by omega, by omega⟩
  rw [h1]; push_cast; omega
theorem cost_mem : ∀ {l : List Tree} {k : Nat} (h : k < l.length), cost l[k] ≤ costs l
  | x :: r, 0, _ => by simp [costs]
  | x :: r, k + 1, hk => by
    have := cost_mem (l := r) (k := k) (by simpa using hk)
    simp [costs]; omega

set_option maxHeartbeats 2000000 in
set_option maxRecDepth 100000 in
theorem len_step (t : Int) (d : List Int) (ks : List Tree) (ih : ∀ x ∈ ks, LenCalls x) : LenCalls (.node t d ks) := by
  intro w F p hT hF hgood hcost
  obtain ⟨A, k1, A', k2, hFp, hp, hby, hA, hk2, hks⟩ := RAt.shape hT
  have hg2 := hgood
  simp only [Good] at hg2
  have hdk := hg2.2.2.1
  have hgs := hg2.2.2.2
  have c1 : w.cell? ⟨p, 2, none⟩ = some (.slice A d.length k1) := (cell_of_row _ _ 2 _ _ (0, 0) hp).trans rfl
  have c2 : w.cell? ⟨p, 3, none⟩ = some (.slice A' ks.length k2) := (cell_of_row _ _ 3 _ _ (0, 0) hp).trans rfl
  rw [cost] at hcost
  have hac := attrsB_cost ks
  have HIH := Lib.hid ih
  have HKS := Lib.hid hks
  have HF := Lib.hid hF
  have HGS := Lib.hid hgs
  have HDK := Lib.hid hdk
  clear ih hks hF hgs hdk hgood hg2 hT hby hA hp
  by_cases h0 : ks = []
  · subst h0
    have w4 : IntKind.i64.wrap (4 + (d.length : Int)) = 4 + (d.length : Int) := IntWalk.i64_in _ (by omega)
    go_enter Try.func93, Try.ntmps93
    go_wp2_with fail
    go_ret
    refine ⟨?_, rfl⟩
    simp [lenT, attrsB]
    omega
  · obtain ⟨m, hm⟩ : ∃ m, ks.length = m + 1 := ⟨ks.length - 1, by have := List.length_pos_iff.2 h0; omega⟩
    obtain ⟨bb, o, rfl, hFb, hkk⟩ := HKS.out h0
    have hd0 : d = [] := by
      rcases HDK.out with h | h
      · exact h
      · exact absurd h h0
    have HD0 := Lib.hid (show d.length = 0 by rw [hd0]; rfl)
    have HKK := Lib.hid hkk
    have HM := Lib.hid hm
    have hkz : ((ks.length : Int) == 0) = false := by rw [beq_eq_false_iff_ne]; omega
    have hml : ks.length ≤ 4000 := by
      have : ∀ l : List Tree, l.length ≤ costs l := by
        intro l
        induction l with
        | nil => simp
        | cons x r ih2 => cases x; simp [costs, cost]; omega
      have := this ks
      omega
    have hpos : 0 < ks.length := by omega
    clear hkk hm hd0
    go_enter Try.func93, Try.ntmps93
    go_wp2_with fail
    go_loopw [3, 23] (fun s i wr => ∃ k : Nat, k ≤ ks.length ∧ i = .int .i64 (k : Nat) ∧ s = .int .i64 ((attrsB (ks.take k)).length : Nat) ∧ wr = w) (fun _ i _ => ks.length - (intOf i).toNat)
    case atStart => exact ⟨0, Nat.zero_le _, rfl, by simp [attrsB], rfl⟩
    case round =>
      obtain ⟨k, hk, rfl, rfl, rfl⟩ := hrel
      have hle := attrsB_take_le ks k
      by_cases hlt : k < ks.length
      · obtain ⟨g, e1, hkid⟩ := KsAt.get ks bb o k hlt HKK.out
        have hle2 := attrsB_take_le ks (k + 1)
        have hcm := cost_mem hlt
        have hsn : attrsB (ks.take (k + 1)) = attrsB (ks.take k) ++ attrB ks[k] := by
          rw [List.take_succ_eq_append_getElem hlt, attrsB_append]; simp [attrsB]
        have hgk := Goods.mem hlt HGS.out
        obtain ⟨T1, hT1⟩ : ∃ T1, T1 = ks[k] := ⟨_, rfl⟩
        have hin : T1 ∈ ks := by rw [hT1]; exact List.getElem_mem hlt
        rw [← hT1] at hkid hcm hsn hgk
        obtain ⟨la1, la2, la3⟩ := lenT_align T1 (by omega)
        have lc := HIH.out T1 hin wr F g hkid HF.out hgk (by omega)
        rw [hsn, List.length_append] at hle2
        have LC := Lib.hid lc
        have HSN := Lib.hid hsn
        have LA1 := Lib.hid la1
        obtain ⟨n0, hn0⟩ : ∃ n0, n0 = (attrsB (ks.take k)).length := ⟨_, rfl⟩
        rw [← hn0] at hle hle2
        rw [← hn0]
        have HN0 := Lib.hid hn0
        clear hT1 hin hkid hgk lc hsn la1 hn0
        go_wp2_with fail
        have wn : IntKind.i64.wrap ((n0 : Int) + ((attrB T1).length : Int)) = (n0 : Int) + ((attrB T1).length : Int) := IntWalk.i64_in _ (by omega)
        refine LC.out.mono ?_
        rintro e w' ⟨rfl, rfl⟩
        go_wp2_with (go_at_call 89; refine (align_calls _ _ (by omega)).mono ?_; rintro e w' ⟨rfl, rfl⟩; rw [LA1.out])
        go_roundw
        case rel =>
          refine ⟨k + 1, by omega, by go_num, ?_, trivial⟩
          rw [HSN.out, List.length_append, ← HN0.out]; go_num
        case measure => simp [intOf]; omega
      · have hkk : k = ks.length := by omega
        subst hkk
        have e0 : attrsB (ks.take ks.length) = attrsB ks := by rw [List.take_length]
        rw [e0]
        obtain ⟨n0, hn0⟩ : ∃ n0, n0 = (attrsB ks).length := ⟨_, rfl⟩
        rw [← hn0]
        rw [← hn0] at hac
        have hmod := attrsB_mod ks
        rw [← hn0] at hmod
        have hdl := HD0.out
        have HN0 := Lib.hid hn0
        have w5 : IntKind.i64.wrap ((n0 : Int) + 4) = (n0 : Int) + 4 := IntWalk.i64_in _ (by omega)
        clear hn0 e0
        go_wp2_with (go_at_call 89; refine (align_calls _ _ (by omega)).mono ?_; rintro e w' ⟨rfl, rfl⟩)
        go_ret
        refine ⟨?_, rfl⟩
        have e1 : lenT (.node t d ks) = (n0 : Int) + 4 := by simp only [lenT, List.length_append]; rw [← HN0.out, HD0.out]; omega
        rw [e1]
        show Ending.returned (Value.int IntKind.i64 _) = _
        congr 2
        omega

theorem len_calls : ∀ T : Tree, LenCalls T
  | .node t d ks => len_step t d ks (fun x _ => len_calls x)
termination_by T => SizeOf.sizeOf T
decreasing_by
  rename_i h
  have := List.sizeOf_lt_of_mem h
  simp
  omega
end Go.Proofs.Ytbogknjgjbhagaa
