/- The reference's bytes of an attribute, of whatever depth. -/
import Derived.Test.YtbogknjgjbhagaaSpec
import Derived.Deep.RegionHeld3
namespace Go.Proofs.Ytbogknjgjbhagaa
open Go.RowKit
set_option linter.unusedSimpArgs false

def AttrCalls (T : Tree) : Prop := ∀ (w : World) (a b c : Value), TreeAt w a b c T → (attrB T).length ≤ 1000000 →
  Calls Try.prog 31 #[.agg #[a, b, c]] w fun e w' => ∃ A cp, e = .returned (.slice A (attrB T).length cp) ∧ w'.ownsRow w.heap.size 5 1 (.slice A (attrB T).length cp) (attrB T).length (bytesC (attrB T)) ∧ Below w.heap.size w w'

theorem three_new (w : World) (a b c : Value) (t : TypeId) : (w.alloc (.cells #[a, b, c] t)).cell? ⟨w.heap.size, 0, none⟩ = some a ∧ (w.alloc (.cells #[a, b, c] t)).cell? ⟨w.heap.size, 1, none⟩ = some b ∧ (w.alloc (.cells #[a, b, c] t)).cell? ⟨w.heap.size, 2, none⟩ = some c :=
  ⟨(cell_of_row _ _ 0 _ _ (0, 0) (heap_alloc_new w _)).trans rfl, (cell_of_row _ _ 1 _ _ (0, 0) (heap_alloc_new w _)).trans rfl, (cell_of_row _ _ 2 _ _ (0, 0) (heap_alloc_new w _)).trans rfl⟩

theorem cells_one {w w1 : World} {p : Addr} {u : Value} (hb : Below w.heap.size w w1) (h : w.cell? p = some u) : w1.cell? p = some u := by
  rw [hb.cell (World.block_lt_of_cell? w _ h)]; exact h

theorem TreeAt.shape {w : World} {a b c : Value} : ∀ {T : Tree}, TreeAt w a b c T → ∃ t A n k A' n' k', a = .int .i64 t ∧ b = .slice A n k ∧ c = .slice A' n' k'
  | .node t d ks, h => by
    simp only [TreeAt] at h
    obtain ⟨h1, -, -, -, ⟨A, c, h2, -⟩, A', n', h3, -⟩ := h
    exact ⟨t, A, _, c, A', _, n', h1, h2, h3⟩

/-- Three cells that stay. -/
def Three (w : World) (g : Nat) (a b c : Value) : Prop := w.cell? ⟨g, 0, none⟩ = some a ∧ w.cell? ⟨g, 1, none⟩ = some b ∧ w.cell? ⟨g, 2, none⟩ = some c
theorem Three.below {w w1 : World} {g : Nat} {a b c : Value} (h : Three w g a b c) (hb : Below w.heap.size w w1) : Three w1 g a b c :=
  ⟨by rw [hb.cell (World.block_lt_of_cell? w _ h.1)]; exact h.1, by rw [hb.cell (World.block_lt_of_cell? w _ h.2.1)]; exact h.2.1, by rw [hb.cell (World.block_lt_of_cell? w _ h.2.2)]; exact h.2.2⟩

set_option maxHeartbeats 4000000 in
set_option maxRecDepth 100000 in
theorem attribute_step (t : Int) (d : List Int) (ks : List Tree) (ih : ∀ x ∈ ks, AttrCalls x) : AttrCalls (.node t d ks) := by
  intro w a b c hT hlen
  simp only [TreeAt] at hT
  obtain ⟨rfl, ht0, ht1, hdb, ⟨A0, c0, rfl, hc0, hr0, hA0⟩, A1, n1, rfl, hn1, hks⟩ := hT
  have hl2 := attrB_len t d ks
  have hlb : d.length + (attrsB ks).length ≤ 1000000 := by omega
  have hkl : ks.length ≤ 1000000 := by
    have : ∀ l : List Tree, l.length ≤ (attrsB l).length := by
      intro l
      induction l with
      | nil => simp
      | cons x r ih2 =>
        cases x with
        | node t' d' k' => have := attrB_len t' d' k'; simp [attrsB]; omega
    have := this ks
    omega
  have HIH := Lib.hid ih
  have HR0 := Lib.hid hr0
  have HA0 := Lib.hid hA0
  have HK := Lib.hid hks
  have HL := Lib.hid hlen
  have HDB := Lib.hid hdb
  clear ih hr0 hA0 hks hlen hdb hl2
  go_enter Try.func31, Try.ntmps31
  obtain ⟨W1, hW1⟩ : ∃ W1, W1 = w.alloc (.cells #[.int .i64 t, .slice A0 d.length c0, .slice A1 ks.length n1] 60) := ⟨_, rfl⟩
  have hthree : Three W1 w.heap.size (.int .i64 t) (.slice A0 d.length c0) (.slice A1 ks.length n1) := by rw [hW1]; exact three_new w _ _ _ _
  have hBW : Below w.heap.size w W1 := by rw [hW1]; exact (Below.refl _ w).alloc (Nat.le_refl _) _
  have H3 := Lib.hid hthree
  have HBW := Lib.hid hBW
  have HW1 := Lib.hid hW1
  go_wp2_with fail
  rw [← hW1]
  clear hW1 hthree hBW
  go_loopw [3, 11] (fun v i wr => ∃ k A n c, k ≤ ks.length ∧ i = .int .i64 (k : Nat) ∧ v = .slice A n c ∧ n = (d ++ attrsB (ks.take k)).length ∧ n ≤ c ∧ Rd wr A (bytesC (d ++ attrsB (ks.take k))) ∧ (A = none → n = 0) ∧ Below W1.heap.size W1 wr) (fun _ i _ => ks.length - (intOf i).toNat)
  case atStart => exact ⟨0, A0, d.length, c0, Nat.zero_le _, rfl, rfl, by simp [attrsB], hc0, by simpa [attrsB] using HR0.out.below HBW.out, fun h => by rw [HA0.out h]; rfl, Below.refl _ _⟩
  case round =>
    obtain ⟨k, A, n, cp, hk, rfl, rfl, hn, hncp, hr, hA, hb⟩ := hrel
    have hb0 := HBW.out.size
    have hbs := hb.size
    have h3 := H3.out.below hb
    obtain ⟨q0, q1, q2⟩ := h3
    have HR := Lib.hid hr
    have HA := Lib.hid hA
    have HB := Lib.hid hb
    clear hr hA hb
    by_cases hlt : k < ks.length
    · obtain ⟨bb, o, rfl, hTs⟩ := HK.out (by rintro rfl; simp at hlt)
      obtain ⟨ka, kb, kc, e0, e1, e2, hkT⟩ := TreesAt.get ks bb o k hlt hTs
      obtain ⟨xt, xA, xn, xc, yA, yn, yc, rfl, rfl, rfl⟩ := TreeAt.shape hkT
      have f0 := cells_one (below_trans HBW.out HB.out) e0
      have f1 := cells_one (below_trans HBW.out HB.out) e1
      have f2 := cells_one (below_trans HBW.out HB.out) e2
      have hkT2 := TreeAt.below (below_trans HBW.out HB.out) _ _ _ _ hkT
      obtain ⟨T1, hT1⟩ : ∃ T1, T1 = ks[k] := ⟨_, rfl⟩
      rw [← hT1] at hkT hkT2
      have hKin : T1 ∈ ks := by rw [hT1]; exact List.getElem_mem hlt
      have hKl : (attrB T1).length ≤ (attrsB ks).length := attrsB_mem_le ks T1 hKin
      have hKt : attrsB (ks.take (k + 1)) = attrsB (ks.take k) ++ attrB T1 := by
        rw [List.take_succ_eq_append_getElem hlt, attrsB_append, ← hT1]; simp [attrsB]
      have hnle : n + (attrB T1).length ≤ d.length + (attrsB ks).length := by
        have h := attrsB_take_le ks (k + 1)
        rw [hKt] at h
        simp at h hn
        omega
      have hK0 : 0 < (attrB T1).length := by
        cases T1 with
        | node t' d' k' => rw [attrB_len]; omega
      have hne : 0 < ks.length := by omega
      have KIH := Lib.hid (HIH.out T1 hKin)
      have KT := Lib.hid hkT2
      have KTT := Lib.hid hKt
      have HN := Lib.hid hn
      clear hkT hkT2 hT1 hKin hTs e0 e1 e2 hKt hn
      go_wp2_with fail
      obtain ⟨W2, hW2⟩ : ∃ W2, W2 = wr.alloc (.cells #[.int .i64 xt, .slice xA xn xc, .slice yA yn yc] 60) := ⟨_, rfl⟩
      have g3 : Three W2 wr.heap.size (.int .i64 xt) (.slice xA xn xc) (.slice yA yn yc) := by rw [hW2]; exact three_new wr _ _ _ _
      have B2 : Below wr.heap.size wr W2 := by rw [hW2]; exact (Below.refl _ wr).alloc (Nat.le_refl _) _
      rw [← hW2]
      have HB2 := Lib.hid B2
      have G3 := Lib.hid g3
      clear hW2 g3 B2 f0 f1 f2 q0 q1 q2
      refine wp_region_held_drew (S := fun w' => w'.cell? ⟨wr.heap.size, 0, none⟩ = some (.int .i64 xt) ∧ w'.cell? ⟨wr.heap.size, 1, none⟩ = some (.slice xA xn xc) ∧ w'.cell? ⟨wr.heap.size, 2, none⟩ = some (.slice yA yn yc) ∧ Below W2.heap.size W2 w') (by kernel_rfl) ⟨G3.out.1, G3.out.2.1, G3.out.2.2, (Below.refl _ _).drew⟩ (fun hHeld => ?_)
      refine wpAnyH_take (i := 0) (oi := ?o0) (v := ?v0) ?h0 (by kernel_rfl) (by kernel_rfl) (by kernel_rfl) ?q0 (Or.inl ⟨?w0, ?y0⟩) (by assumption) ?r0
      case h0 => (simp only [List.getElem?_toArray, List.getElem?_cons_succ, List.getElem?_cons_zero] <;> rfl)
      case q0 => exact fun _ _ _ h => h
      case w0 => rfl
      case y0 => (intro w hSw; (try dsimp only at hSw); go_simp; (try with_reducible rfl))
      try simp only [Act.put, List.setIfInBounds_toArray, List.set_cons_zero, List.set_cons_succ]
      refine wpAnyH_take (i := 1) (oi := ?o1) (v := ?v1) ?h1 (by kernel_rfl) (by kernel_rfl) (by kernel_rfl) ?q1 (Or.inl ⟨?w1, ?y1⟩) (by assumption) ?r1
      case h1 => (simp only [List.getElem?_toArray, List.getElem?_cons_succ, List.getElem?_cons_zero] <;> rfl)
      case q1 => exact fun _ _ _ h => h
      case w1 => rfl
      case y1 => (intro w hSw; (try dsimp only at hSw); go_simp; (try with_reducible rfl))
      try simp only [Act.put, List.setIfInBounds_toArray, List.set_cons_zero, List.set_cons_succ]
      refine wpAnyH_take (i := 2) (oi := ?o2) (v := ?v2) ?h2 (by kernel_rfl) (by kernel_rfl) (by kernel_rfl) ?q2 (Or.inl ⟨?w2, ?y2⟩) (by assumption) ?r2
      case h2 => (simp only [List.getElem?_toArray, List.getElem?_cons_succ, List.getElem?_cons_zero] <;> rfl)
      case q2 => exact fun _ _ _ h => h
      case w2 => rfl
      case y2 => (intro w hSw; (try dsimp only at hSw); go_simp; (try with_reducible rfl))
      try simp only [Act.put, List.setIfInBounds_toArray, List.set_cons_zero, List.set_cons_succ]
      refine wpAnyH_take (i := 3) (oi := ?o3) (v := ?v3) ?h3 (by kernel_rfl) (by kernel_rfl) (by kernel_rfl) ?q3 (Or.inl ⟨?w3, ?y3⟩) (by assumption) ?r3
      case h3 => (simp only [List.getElem?_toArray, List.getElem?_cons_succ, List.getElem?_cons_zero] <;> rfl)
      case q3 => exact fun _ _ _ h => h
      case w3 => rfl
      case y3 => (intro w hSw; (try dsimp only at hSw); go_simp; (try with_reducible rfl))
      try simp only [Act.put, List.setIfInBounds_toArray, List.set_cons_zero, List.set_cons_succ]
      refine wpAnyH_take (i := 4) (oi := ?o4) (v := ?v4) ?h4 (by kernel_rfl) (by kernel_rfl) (by kernel_rfl) ?q4 (Or.inl ⟨?w4, ?y4⟩) (by assumption) ?r4
      case h4 => (simp only [List.getElem?_toArray, List.getElem?_cons_succ, List.getElem?_cons_zero] <;> rfl)
      case q4 => exact fun _ _ _ h => h
      case w4 => rfl
      case y4 => (intro w hSw; (try dsimp only at hSw); go_simp; (try with_reducible rfl))
      try simp only [Act.put, List.setIfInBounds_toArray, List.set_cons_zero, List.set_cons_succ]
      refine wpAnyH_take (i := 5) (oi := ?o5) (v := ?v5) ?h5 (by kernel_rfl) (by kernel_rfl) (by kernel_rfl) ?q5 (Or.inl ⟨?w5, ?y5⟩) (by assumption) ?r5
      case h5 => (simp only [List.getElem?_toArray, List.getElem?_cons_succ, List.getElem?_cons_zero] <;> rfl)
      case q5 => exact fun _ _ _ h => h
      case w5 => rfl
      case y5 => (intro w hSw; (try dsimp only at hSw); go_simp; (try with_reducible rfl))
      try simp only [Act.put, List.setIfInBounds_toArray, List.set_cons_zero, List.set_cons_succ]
      refine wpAnyH_take (i := 6) (oi := ?o6) (v := ?v6) ?h6 (by kernel_rfl) (by kernel_rfl) (by kernel_rfl) ?q6 (Or.inl ⟨?w6, ?y6⟩) (by assumption) ?r6
      case h6 => (simp only [List.getElem?_toArray, List.getElem?_cons_succ, List.getElem?_cons_zero] <;> rfl)
      case q6 => exact fun _ _ _ h => h
      case w6 => rfl
      case y6 => (intro w hSw; (try dsimp only at hSw); go_simp; (try with_reducible rfl))
      try simp only [Act.put, List.setIfInBounds_toArray, List.set_cons_zero, List.set_cons_succ]
      refine wpAnyH_ready (rs := [7]) (by kernel_rfl) (by simp) ?_
      refine AllReadyH.cons (o := ?o7) ?h7 (fun K hK => ?_) AllReadyH.nil
      case h7 => (simp only [List.getElem?_toArray, List.getElem?_cons_succ, List.getElem?_cons_zero] <;> rfl)
      go_simp
      refine (KIH.out _ _ _ _ (TreeAt.below (below_trans HB2.out (Below.refl _ _).drew) _ _ _ _ KT.out) (by omega)).mono ?_
      rintro e w3 ⟨A3, c3, rfl, hown3, hb3⟩
      obtain ⟨A3', c3', e3, -, hr3, hn3⟩ := Rd.of_own hown3
      injection e3 with e31 e32 e33
      subst e31 e33
      have BW3 : Below W2.heap.size W2 w3 := (Below.refl _ W2).drew.trans hb3
      have g3 := G3.out.below BW3
      have HB3 := Lib.hid (below_trans HB2.out BW3)
      have HR3 := Lib.hid hr3
      have HN3 := Lib.hid hn3
      have HBW3 := Lib.hid BW3
      clear hr3 hn3 BW3 hown3 hb3
      refine hK.out _ _ ?s7 (fun hHeld => ?_)
      case s7 => exact ⟨g3.1, g3.2.1, g3.2.2, HBW3.out⟩
      clear hK K
      try simp only [Act.put, List.setIfInBounds_toArray, List.set_cons_zero, List.set_cons_succ]
      refine wpAnyH_ready (rs := [8]) (by kernel_rfl) (by simp) ?_
      refine AllReadyH.cons (o := ?o8) ?h8 (fun K hK => ?_) AllReadyH.nil
      case h8 => (simp only [List.getElem?_toArray, List.getElem?_cons_succ, List.getElem?_cons_zero] <;> rfl)
      obtain ⟨A4, c4, w4, hrun, hown4, hb4⟩ := app_full A n (d ++ attrsB (ks.take k)) A3 (attrB T1).length c3 (attrB T1) w3 (HR.out.below HB3.out) HN.out.symm HA.out HR3.out rfl hK0 (by omega)
      refine wp_app (Operand.tmp 20) (Operand.tmp 22) 31 rfl rfl rfl hrun ?_
      have BW4 : Below W2.heap.size W2 w4 := below_trans HBW3.out hb4
      have g4 := G3.out.below BW4
      obtain ⟨A4', c4', e4, hk4, hr4, hn4⟩ := Rd.of_own hown4
      injection e4 with e41 e42 e43
      subst e41 e43
      have HR4 := Lib.hid hr4
      have HN4 := Lib.hid hn4
      have HB4 := Lib.hid (below_trans HB2.out BW4)
      refine hK.out _ _ ?s8 (fun hHeld => ?_)
      case s8 => exact ⟨g4.1, g4.2.1, g4.2.2, BW4⟩
      clear hK K
      try simp only [Act.put, List.setIfInBounds_toArray, List.set_cons_zero, List.set_cons_succ]
      refine wpAnyH_take (i := 9) (oi := ?o9) (v := ?v9) ?h9 (by kernel_rfl) (by kernel_rfl) (by kernel_rfl) ?q9 (Or.inl ⟨?w9, ?y9⟩) (by assumption) ?r9
      case h9 => (simp only [List.getElem?_toArray, List.getElem?_cons_succ, List.getElem?_cons_zero] <;> rfl)
      case q9 => exact fun _ _ _ h => h
      case w9 => rfl
      case y9 => (intro w hSw; (try dsimp only at hSw); go_simp; (try with_reducible rfl))
      try simp only [Act.put, List.setIfInBounds_toArray, List.set_cons_zero, List.set_cons_succ]
      refine wpAnyH_done (by kernel_rfl) ?_ _
      clear hrun hown4 hb4 BW4 g4 hr4 hn4
      go_wp2_with fail
      go_roundw
      case rel =>
        refine ⟨k + 1, A4, n + (attrB T1).length, c4, hlt, by go_num, rfl, ?_, hk4, ?_, fun h => by have := HN4.out h; omega, below_trans HB.out HB4.out⟩
        · rw [KTT.out, ← List.append_assoc, List.length_append, ← HN.out]
        · rw [KTT.out, ← List.append_assoc]; exact HR4.out
      case measure => simp [intOf]; omega
    · have hkk : k = ks.length := by omega
      subst hkk
      have HT := Lib.hid (show d ++ attrsB (ks.take ks.length) = d ++ attrsB ks by rw [List.take_length])
      have hnle : n = d.length + (attrsB ks).length := by rw [hn, HT.out, List.length_append]
      have hnle2 : n ≤ 1000000 := by omega
      have HN := Lib.hid hn
      have HNL := Lib.hid hnle
      clear hn H3 HW1 hnle
      have w0 : IntKind.i64.wrap ((n : Int) + 4) = (n : Int) + 4 := IntWalk.i64_in _ (by omega)
      have w1 : IntKind.u64.wrap ((n : Int) + 4) = (n : Int) + 4 := IntWalk.u64_in _ (by omega)
      have w2 : IntKind.u64.wrap t = t := IntWalk.u64_in _ (by omega)
      go_wp2_with fail
      have B0 := Lib.hid (below_trans HBW.out HB.out)
      refine wp_region_held_drew (S := fun w' => w'.cell? ⟨w.heap.size, 0, none⟩ = some (.int .i64 t) ∧ Below wr.heap.size wr w') (by kernel_rfl) ⟨q0, (Below.refl _ _).drew⟩ (fun hHeld => ?_)
      refine wpAnyH_take (i := 0) (oi := ?o0E) (v := ?v0E) ?h0E (by kernel_rfl) (by kernel_rfl) (by kernel_rfl) ?q0E (Or.inl ⟨?w0E, ?y0E⟩) (by assumption) ?r0E
      case h0E => (simp only [List.getElem?_toArray, List.getElem?_cons_succ, List.getElem?_cons_zero] <;> rfl)
      case q0E => exact fun _ _ _ h => h
      case w0E => rfl
      case y0E => (intro w hSw; (try dsimp only at hSw); go_simp; (try with_reducible rfl))
      try simp only [Act.put, List.setIfInBounds_toArray, List.set_cons_zero, List.set_cons_succ]
      refine wpAnyH_take (i := 1) (oi := ?o1E) (v := ?v1E) ?h1E (by kernel_rfl) (by kernel_rfl) (by kernel_rfl) ?q1E (Or.inl ⟨?w1E, ?y1E⟩) (by assumption) ?r1E
      case h1E => (simp only [List.getElem?_toArray, List.getElem?_cons_succ, List.getElem?_cons_zero] <;> rfl)
      case q1E => exact fun _ _ _ h => h
      case w1E => rfl
      case y1E => (intro w hSw; (try dsimp only at hSw); go_simp; (try with_reducible rfl))
      try simp only [Act.put, List.setIfInBounds_toArray, List.set_cons_zero, List.set_cons_succ]
      refine wpAnyH_take (i := 2) (oi := ?o2E) (v := ?v2E) ?h2E (by kernel_rfl) (by kernel_rfl) (by kernel_rfl) ?q2E (Or.inl ⟨?w2E, ?y2E⟩) (by assumption) ?r2E
      case h2E => (simp only [List.getElem?_toArray, List.getElem?_cons_succ, List.getElem?_cons_zero] <;> rfl)
      case q2E => exact fun _ _ _ h => h
      case w2E => rfl
      case y2E => (intro w hSw; (try dsimp only at hSw); go_simp; (try with_reducible rfl))
      try simp only [Act.put, List.setIfInBounds_toArray, List.set_cons_zero, List.set_cons_succ]
      refine wpAnyH_take (i := 3) (oi := ?o3E) (v := ?v3E) ?h3E (by kernel_rfl) (by kernel_rfl) (by kernel_rfl) ?q3E (Or.inl ⟨?w3E, ?y3E⟩) (by assumption) ?r3E
      case h3E => (simp only [List.getElem?_toArray, List.getElem?_cons_succ, List.getElem?_cons_zero] <;> rfl)
      case q3E => exact fun _ _ _ h => h
      case w3E => rfl
      case y3E => (intro w hSw; (try dsimp only at hSw); go_simp; (try with_reducible rfl))
      try simp only [Act.put, List.setIfInBounds_toArray, List.set_cons_zero, List.set_cons_succ]
      refine wpAnyH_take (i := 5) (oi := ?o5E) (v := ?v5E) ?h5E (by kernel_rfl) (by kernel_rfl) (by kernel_rfl) ?q5E (Or.inl ⟨?w5E, ?y5E⟩) (by assumption) ?r5E
      case h5E => (simp only [List.getElem?_toArray, List.getElem?_cons_succ, List.getElem?_cons_zero] <;> rfl)
      case q5E => exact fun _ _ _ h => h
      case w5E => rfl
      case y5E => (intro w hSw; (try dsimp only at hSw); go_simp; (try with_reducible rfl))
      try simp only [Act.put, List.setIfInBounds_toArray, List.set_cons_zero, List.set_cons_succ]
      refine wpAnyH_take (i := 6) (oi := ?o6E) (v := ?v6E) ?h6E (by kernel_rfl) (by kernel_rfl) (by kernel_rfl) ?q6E (Or.inl ⟨?w6E, ?y6E⟩) (by assumption) ?r6E
      case h6E => (simp only [List.getElem?_toArray, List.getElem?_cons_succ, List.getElem?_cons_zero] <;> rfl)
      case q6E => exact fun _ _ _ h => h
      case w6E => rfl
      case y6E => (intro w hSw; (try dsimp only at hSw); go_simp; (try with_reducible rfl))
      try simp only [Act.put, List.setIfInBounds_toArray, List.set_cons_zero, List.set_cons_succ]
      refine wpAnyH_take (i := 7) (oi := ?o7E) (v := ?v7E) ?h7E (by kernel_rfl) (by kernel_rfl) (by kernel_rfl) ?q7E (Or.inl ⟨?w7E, ?y7E⟩) (by assumption) ?r7E
      case h7E => (simp only [List.getElem?_toArray, List.getElem?_cons_succ, List.getElem?_cons_zero] <;> rfl)
      case q7E => exact fun _ _ _ h => h
      case w7E => rfl
      case y7E => (intro w hSw; (try dsimp only at hSw); go_simp; (try with_reducible rfl))
      try simp only [Act.put, List.setIfInBounds_toArray, List.set_cons_zero, List.set_cons_succ]
      refine wpAnyH_take (i := 10) (oi := ?o10E) (v := ?v10E) ?h10E (by kernel_rfl) (by kernel_rfl) (by kernel_rfl) ?q10E (Or.inl ⟨?w10E, ?y10E⟩) (by assumption) ?r10E
      case h10E => (simp only [List.getElem?_toArray, List.getElem?_cons_succ, List.getElem?_cons_zero] <;> rfl)
      case q10E => exact fun _ _ _ h => h
      case w10E => rfl
      case y10E => (intro w hSw; (try dsimp only at hSw); go_simp; (try with_reducible rfl))
      try simp only [Act.put, List.setIfInBounds_toArray, List.set_cons_zero, List.set_cons_succ]
      refine wpAnyH_ready (rs := [4]) (by kernel_rfl) (by simp) ?_
      refine AllReadyH.cons (o := ?o4F) ?h4F (fun K hK => ?_) AllReadyH.nil
      case h4F => (simp only [List.getElem?_toArray, List.getElem?_cons_succ, List.getElem?_cons_zero] <;> rfl)
      go_simp
      refine (low_calls ((n : Int) + 4) 2 2 _ rfl (by decide) (by decide)).mono ?_
      rintro e w1 ⟨v1, rfl, hown1, hb1⟩
      obtain ⟨X1, k1, rfl, -, hr1, hn1⟩ := Rd.of_own hown1
      have D1 : Below wr.heap.size wr w1 := below_trans (Below.refl _ _).drew hb1
      have z1 := D1.size
      have O1 := Lib.hid (own_lower hown1 (show wr.heap.size ≤ _ by simp))
      have E1 := Lib.hid hr1
      have N1 := Lib.hid hn1
      clear hown1 hr1 hn1
      refine hK.out _ _ ?s4F (fun hHeld => ?_)
      case s4F => exact ⟨cells_one D1 q0, D1⟩
      clear hK K
      try simp only [Act.put, List.setIfInBounds_toArray, List.set_cons_zero, List.set_cons_succ]
      refine wpAnyH_ready (rs := [8]) (by kernel_rfl) (by simp) ?_
      refine AllReadyH.cons (o := ?o8F) ?h8F (fun K hK => ?_) AllReadyH.nil
      case h8F => (simp only [List.getElem?_toArray, List.getElem?_cons_succ, List.getElem?_cons_zero] <;> rfl)
      go_simp
      refine (low_calls t 2 2 _ rfl (by decide) (by decide)).mono ?_
      rintro e w2 ⟨v2, rfl, hown2, hb2⟩
      obtain ⟨X2, k2, rfl, -, hr2, hn2⟩ := Rd.of_own hown2
      have D2 : Below wr.heap.size wr w2 := below_trans D1 hb2
      have z2 := D2.size
      have O2 := Lib.hid (own_lower hown2 z1)
      have O1b := Lib.hid (own_below O1.out hb2)
      have E1b := Lib.hid (E1.out.below hb2)
      have E2 := Lib.hid hr2
      have N2 := Lib.hid hn2
      clear hown2 hr2 hn2 O1 E1
      refine hK.out _ _ ?s8F (fun hHeld => ?_)
      case s8F => exact ⟨cells_one D2 q0, D2⟩
      clear hK K
      try simp only [Act.put, List.setIfInBounds_toArray, List.set_cons_zero, List.set_cons_succ]
      refine wpAnyH_ready (rs := [9]) (by kernel_rfl) (by simp) ?_
      refine AllReadyH.cons (o := ?o9F) ?h9F (fun K hK => ?_) AllReadyH.nil
      case h9F => (simp only [List.getElem?_toArray, List.getElem?_cons_succ, List.getElem?_cons_zero] <;> rfl)
      obtain ⟨A3, c3, w3, hrun3, hown3, hb3⟩ := app_own wr.heap.size X1 2 k1 (lowB ((n : Int) + 4) 2) X2 2 k2 (lowB t 2) w2 O1b.out E2.out rfl (fun h => (N2.out h).1) (by omega) z2
      refine wp_app (Operand.tmp 29) (Operand.tmp 33) 31 rfl rfl rfl hrun3 ?_
      have D3 : Below wr.heap.size wr w3 := D2.trans hb3
      have z3 := D3.size
      have O3 := Lib.hid hown3
      refine hK.out _ _ ?s9F (fun hHeld => ?_)
      case s9F => exact ⟨cells_one D3 q0, D3⟩
      clear hK K
      try simp only [Act.put, List.setIfInBounds_toArray, List.set_cons_zero, List.set_cons_succ]
      refine wpAnyH_ready (rs := [11]) (by kernel_rfl) (by simp) ?_
      refine AllReadyH.cons (o := ?o11F) ?h11F (fun K hK => ?_) AllReadyH.nil
      case h11F => (simp only [List.getElem?_toArray, List.getElem?_cons_succ, List.getElem?_cons_zero] <;> rfl)
      obtain ⟨A4, c4, w4, hrun4, hown4, hb4⟩ := app_own wr.heap.size A3 4 c3 _ A n cp (d ++ attrsB ks) w3 O3.out (by rw [← HT.out]; exact HR.out.below D3) (by have := HNL.out; simp; omega) HA.out (by omega) z3
      refine wp_app (Operand.tmp 34) (Operand.tmp 35) 31 rfl rfl rfl hrun4 ?_
      have D4 : Below wr.heap.size wr w4 := D3.trans hb4
      have z4 := D4.size
      have O4 := Lib.hid hown4
      refine hK.out _ _ ?s11F (fun hHeld => ?_)
      case s11F => exact ⟨cells_one D4 q0, D4⟩
      clear hK K
      try simp only [Act.put, List.setIfInBounds_toArray, List.set_cons_zero, List.set_cons_succ]
      refine wpAnyH_ready (rs := [12]) (by kernel_rfl) (by simp) ?_
      refine AllReadyH.cons (o := ?o12F) ?h12F (fun K hK => ?_) AllReadyH.nil
      case h12F => (simp only [List.getElem?_toArray, List.getElem?_cons_succ, List.getElem?_cons_zero] <;> rfl)
      go_simp
      refine (padded_calls wr.heap.size A4 (4 + n) c4 _ w4 O4.out z4 (by omega)).mono ?_
      rintro e w5 ⟨v5, rfl, hown5, hb5⟩
      obtain ⟨A5, c5, rfl, -, -, -⟩ := Rd.of_own hown5
      have D5 : Below wr.heap.size wr w5 := D4.trans hb5
      have HD5 := Lib.hid D5
      have O5 := Lib.hid hown5
      refine hK.out _ _ ?s12F (fun hHeld => ?_)
      case s12F => exact ⟨cells_one D5 q0, D5⟩
      clear hK K
      try simp only [Act.put, List.setIfInBounds_toArray, List.set_cons_zero, List.set_cons_succ]
      refine wpAnyH_take (i := 13) (oi := ?o13F) (v := ?v13F) ?h13F (by kernel_rfl) (by kernel_rfl) (by kernel_rfl) ?q13F (Or.inl ⟨?w13F, ?y13F⟩) (by assumption) ?r13F
      case h13F => (simp only [List.getElem?_toArray, List.getElem?_cons_succ, List.getElem?_cons_zero] <;> rfl)
      case q13F => exact fun _ _ _ h => h
      case w13F => rfl
      case y13F => (intro w hSw; (try dsimp only at hSw); go_simp; (try with_reducible rfl))
      try simp only [Act.put, List.setIfInBounds_toArray, List.set_cons_zero, List.set_cons_succ]
      refine wpAnyH_done (by kernel_rfl) ?_ _
      clear hrun3 hrun4 hown3 hown4 hown5 hb3 hb4 hb5 D5
      go_wp2_with fail
      go_ret
      have e : pad (lowB ((n : Int) + 4) 2 ++ lowB t 2 ++ (d ++ attrsB ks)) = attrB (.node t d ks) := by
        rw [attrB, List.length_append, HNL.out]; simp
      rw [e] at O5
      rw [e]
      exact ⟨_, _, rfl, own_lower O5.out (Nat.le_trans hb0 hbs), below_trans B0.out HD5.out⟩

/-- The reference's bytes of an attribute. -/
theorem attribute_calls : ∀ T : Tree, AttrCalls T
  | .node t d ks => attribute_step t d ks (fun x _ => attribute_calls x)
termination_by T => SizeOf.sizeOf T
decreasing_by
  rename_i h
  have := List.sizeOf_lt_of_mem h
  simp
  omega
end Go.Proofs.Ytbogknjgjbhagaa
