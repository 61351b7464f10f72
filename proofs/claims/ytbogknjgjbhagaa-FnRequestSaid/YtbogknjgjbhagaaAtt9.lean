/- The statement on attributes: it answers true, whatever attribute comes in. -/
import Derived.Test.YtbogknjgjbhagaaAtt8
import Derived.Test.YtbogknjgjbhagaaLab5
namespace Go.Proofs.Ytbogknjgjbhagaa
open Go.RowKit
set_option linter.unusedSimpArgs false

mutual
theorem XAt.later {w w1 : World} (hb : Below w.heap.size w w1) : ∀ (T : Tree) (a b c : Value), XAt w w (fun _ => True) a b c T → XAt w1 w1 (fun _ => True) a b c T
  | .node t d ks, a, b, c, h => by
    simp only [XAt] at h ⊢
    obtain ⟨h1, h2, h3, h4, A, n, h5, h6, h6', h7⟩ := h
    refine ⟨h1, h2, h3, h4.below hb, A, n, h5, h6, h6', fun hne => ?_⟩
    obtain ⟨bb, o, e, _, hh⟩ := h7 hne
    exact ⟨bb, o, e, trivial, XsAt.later hb ks bb o hh⟩
theorem XsAt.later {w w1 : World} (hb : Below w.heap.size w w1) : ∀ (l : List Tree) (bb o : Nat), XsAt w w (fun _ => True) bb o l → XsAt w1 w1 (fun _ => True) bb o l
  | [], _, _, _ => by simp only [XsAt]
  | x :: r, bb, o, h => by
    simp only [XsAt] at h ⊢
    obtain ⟨⟨a, b, c, h1, h2, h3, h4⟩, h5⟩ := h
    exact ⟨⟨a, b, c, cells_one hb h1, cells_one hb h2, cells_one hb h3, XAt.later hb x a b c h4⟩, XsAt.later hb r bb (o + 3) h5⟩
end

set_option maxHeartbeats 4000000 in
set_option maxRecDepth 100000 in
theorem fnAttribute_calls (T : Tree) (a b c : Value) (w : World) (hT : XAt w w (fun _ => True) a b c T) :
    Calls Try.prog 7 #[.agg #[a, b, c]] w fun e w' => e = .returned (.bool true) ∧ Below w.heap.size w w' := by
  have HT := Lib.hid hT
  obtain ⟨t, d, ks⟩ := T
  obtain ⟨A, k1, A', k2, rfl, rfl, rfl, -, hdl, hk2, hk3, -⟩ := XAt.shape hT
  clear hT
  have hkl : ks.length ≤ 9223372036854775807 := by omega
  go_enter Try.func7, Try.ntmps7
  obtain ⟨W1, hW1⟩ : ∃ W1, W1 = w.alloc (.cells #[.int .i64 t, .slice A d.length k1, .slice A' ks.length k2] 56) := ⟨_, rfl⟩
  have D1 : Below w.heap.size w W1 := by rw [hW1]; exact (Below.refl _ w).alloc (Nat.le_refl _) _
  have q3 : Three W1 w.heap.size (.int .i64 t) (.slice A d.length k1) (.slice A' ks.length k2) := by rw [hW1]; exact three_new w _ _ _ _
  have Q3 := Lib.hid q3
  obtain ⟨q30, q31, q32⟩ := q3
  have HD1 := Lib.hid D1
  have HW1 := Lib.hid hW1
  have hsz1 := D1.size
  clear hW1 D1
  go_wp2_with fail
  rw [← HW1.out]
  refine (zzFits1_calls t A A' d.length k1 ks.length k2 W1 hdl hkl).mono ?_
  rintro e w1 ⟨r, rfl, hb1⟩
  have g1 := Q3.out.below hb1
  have HB1 := Lib.hid (HD1.out.trans (hb1.mono hsz1))
  have G1 := Lib.hid g1
  obtain ⟨p30, p31, p32⟩ := g1
  clear hb1
  cases r with
  | false =>
    go_wp2_with fail
    go_ret
    exact ⟨rfl, HB1.out⟩
  | true =>
    have hszw1 := HB1.out.size
    go_wp2_with fail
    refine (node_calls (.node t d ks) w1 _ _ _ (XAt.later HB1.out _ _ _ _ HT.out)).mono ?_
    rintro e w2 ⟨a2, b2, c2, x, rfl, hx, hgx, hsm, hb2⟩
    have g2 := G1.out.below hb2
    have hgx2 := hgx
    obtain ⟨t2, d2, ks2⟩ := x
    obtain ⟨zA, zk, zA', zk', rfl, rfl, rfl, -⟩ := XAt.shape hx
    have HX := Lib.hid hx
    have HGX := Lib.hid hgx2
    have HSM := Lib.hid hsm
    have HB2 := Lib.hid hb2
    have G2 := Lib.hid g2
    have hsz2 := hb2.size
    clear hx hgx hgx2 hsm hb2 p30 p31 p32 g2 q30 q31 q32
    go_wp2_with fail
    obtain ⟨W3, hW3⟩ : ∃ W3, W3 = w2.alloc (.cells #[.int .i64 t2, .slice zA d2.length zk, .slice zA' ks2.length zk'] 60) := ⟨_, rfl⟩
    have D3 : Below w2.heap.size w2 W3 := by rw [hW3]; exact (Below.refl _ w2).alloc (Nat.le_refl _) _
    have s3 : Three W3 w2.heap.size (.int .i64 t2) (.slice zA d2.length zk) (.slice zA' ks2.length zk') := by rw [hW3]; exact three_new w2 _ _ _ _
    rw [← hW3]
    have HD3 := Lib.hid D3
    have S3 := Lib.hid s3
    have hsz3 := D3.size
    clear hW3 D3 s3
    refine (fits_calls (.node t2 d2 ks2) w1 W3 _ _ _ _ (XAt.keep (F' := fun g => w1.heap.size ≤ g ∧ g < w2.heap.size) (fun g hg => ⟨HD3.out.block g hg.2, hg⟩) _ _ _ _ HX.out) (fun g hg => by omega) HSM.out).mono ?_
    rintro e w4 ⟨r4, rfl, h4, hb4⟩
    have HB4 := Lib.hid (below_trans HD3.out hb4)
    have hsz4 := HB4.out.size
    have s4 := S3.out.below hb4
    have S4 := Lib.hid s4
    have g4 := (G2.out.below HB4.out)
    have H4 := Lib.hid h4
    clear hb4 h4
    cases r4 with
    | false =>
      clear s4
      go_wp2_with (go_at_call 11; refine (works_calls _).mono ?_; rintro e w' ⟨rfl, rfl⟩)
      go_ret
      exact ⟨rfl, HB1.out.trans ((below_trans HB2.out HB4.out).mono hszw1)⟩
    | true =>
      obtain ⟨hcost, hgood⟩ := H4.out rfl
      have hxx := HGX.out hgood
      injection hxx with e1 e2 e3
      subst e1 e2 e3
      obtain ⟨p40, p41, p42⟩ := g4
      have HC := Lib.hid hcost
      have HG := Lib.hid hgood
      have BA := Lib.hid (HB1.out.trans ((below_trans HB2.out HB4.out).mono hszw1))
      clear hcost hgood s4 HGX H4
      go_wp2_with fail
      refine (implAttribute_calls (.node t2 d2 ks2) _ _ _ w w4 HT.out BA.out HG.out HC.out).mono ?_
      rintro e w5 ⟨v5, rfl, hown5, hb5⟩
      have hba := (own_bytesF hown5).at_
      obtain ⟨A5, c5, rfl, -, -, -⟩ := Rd.of_own hown5
      have HBA := Lib.hid hba
      have HB5 := Lib.hid hb5
      have s5 := S4.out.below hb5
      have S5 := Lib.hid s5
      have BA5 := Lib.hid (BA.out.trans (hb5.mono BA.out.size))
      have hx5 := XAt.tree (below_trans (below_trans HB2.out HB4.out) hb5) (.node t2 d2 ks2) _ _ _ (XAt.keep (F' := fun _ => True) (fun g hg => ⟨(hb5.block g (by omega)).trans (HB4.out.block g hg.2), trivial⟩) _ _ _ _ HX.out) HG.out
      have HX5 := Lib.hid hx5
      have hsz5 := hb5.size
      clear hba hown5 hb5 s5 hx5
      have hbl := Nat.le_trans (attrB_cost (.node t2 d2 ks2)) HC.out
      have HBL := Lib.hid hbl
      obtain ⟨q, hq⟩ : ∃ q, q = (attrB (.node t2 d2 ks2)).length := ⟨_, rfl⟩
      obtain ⟨str, hstr⟩ : ∃ str, str = strOfNums (attrB (.node t2 d2 ks2)) := ⟨_, rfl⟩
      have CV : Hid (∀ W, Below w5.heap.size w5 W → (convert 31 9 (.slice A5 (attrB (.node t2 d2 ks2)).length c5)).run Try.prog W = .ok (.string str) W ∧ W.cell? ⟨w2.heap.size, 0, none⟩ = some (.int .i64 t2) ∧ W.cell? ⟨w2.heap.size, 1, none⟩ = some (.slice zA d2.length zk) ∧ W.cell? ⟨w2.heap.size, 2, none⟩ = some (.slice zA' ks2.length zk')) := fun W hW => by
        have h := S5.out.below hW
        rw [hstr]
        exact ⟨conv_all _ _ _ (HBA.out.below hW), h.1, h.2.1, h.2.2⟩
      have HSTR := Lib.hid hstr
      rw [← hq] at CV
      rw [← hq]
      have HQ := Lib.hid hq
      clear hbl hstr hq
      go_wp2_with fail
      refine wp_region_held_drew (S := fun W => (convert 31 9 (.slice A5 q c5)).run Try.prog W = .ok (.string str) W ∧ W.cell? ⟨w2.heap.size, 0, none⟩ = some (.int .i64 t2) ∧ W.cell? ⟨w2.heap.size, 1, none⟩ = some (.slice zA d2.length zk) ∧ W.cell? ⟨w2.heap.size, 2, none⟩ = some (.slice zA' ks2.length zk')) (by kernel_rfl) (CV.out _ (Below.refl _ _).drew) (fun hHeld => ?_)
      refine wpAnyH_take (i := 0) (oi := ?o0) (v := ?v0) ?h0 (by kernel_rfl) (by kernel_rfl) (by kernel_rfl) ?q0 (Or.inl ⟨?w0, ?y0⟩) (by assumption) ?r0
      case h0 => (simp only [List.getElem?_toArray, List.getElem?_cons_succ, List.getElem?_cons_zero] <;> rfl)
      case q0 => exact fun _ _ _ h => h
      case w0 => rfl
      case y0 => (intro w hSw; (try dsimp only at hSw); go_simp; (try with_reducible rfl))
      try simp only [Act.put, List.setIfInBounds_toArray, List.set_cons_zero, List.set_cons_succ]
      refine wpAnyH_take (i := 1) (oi := ?o1) (v := ?v1) ?h1 (by kernel_rfl) (by kernel_rfl) (by kernel_rfl) ?q1 (Or.inl ⟨?w1, ?y1⟩) (by assumption) ?r1
      case h1 => (simp only [List.getElem?_toArray, List.getElem?_cons_succ, List.getElem?_cons_zero] <;> rfl)
      case q1 => exact fun _ _ _ h => h
      case w1 => rfl
      case y1 => (intro w hSw; (try dsimp only at hSw); go_simp; (try with_reducible rfl))
      try simp only [Act.put, List.setIfInBounds_toArray, List.set_cons_zero, List.set_cons_succ]
      refine wpAnyH_take (i := 2) (oi := ?o2) (v := ?v2) ?h2 (by kernel_rfl) (by kernel_rfl) (by kernel_rfl) ?q2 (Or.inl ⟨?w2, ?y2⟩) (by assumption) ?r2
      case h2 => (simp only [List.getElem?_toArray, List.getElem?_cons_succ, List.getElem?_cons_zero] <;> rfl)
      case q2 => exact fun _ _ _ h => h
      case w2 => rfl
      case y2 => (intro w hSw; (try dsimp only at hSw); go_simp; (try with_reducible rfl))
      try simp only [Act.put, List.setIfInBounds_toArray, List.set_cons_zero, List.set_cons_succ]
      refine wpAnyH_take (i := 3) (oi := ?o3) (v := ?v3) ?h3 (by kernel_rfl) (by kernel_rfl) (by kernel_rfl) ?q3 (Or.inl ⟨?w3, ?y3⟩) (by assumption) ?r3
      case h3 => (simp only [List.getElem?_toArray, List.getElem?_cons_succ, List.getElem?_cons_zero] <;> rfl)
      case q3 => exact fun _ _ _ h => h
      case w3 => rfl
      case y3 => (intro w hSw; (try dsimp only at hSw); go_simp; (try with_reducible rfl))
      try simp only [Act.put, List.setIfInBounds_toArray, List.set_cons_zero, List.set_cons_succ]
      refine wpAnyH_take (i := 4) (oi := ?o4) (v := ?v4) ?h4 (by kernel_rfl) (by kernel_rfl) (by kernel_rfl) ?q4 (Or.inl ⟨?w4, ?y4⟩) (by assumption) ?r4
      case h4 => (simp only [List.getElem?_toArray, List.getElem?_cons_succ, List.getElem?_cons_zero] <;> rfl)
      case q4 => exact fun _ _ _ h => h
      case w4 => rfl
      case y4 => (intro w hSw; (try dsimp only at hSw); go_simp; (try with_reducible rfl))
      try simp only [Act.put, List.setIfInBounds_toArray, List.set_cons_zero, List.set_cons_succ]
      refine wpAnyH_ready (rs := [5]) (by kernel_rfl) (by simp) ?_
      refine AllReadyH.cons (o := ?o5) ?h5 (fun K hK => ?_) AllReadyH.nil
      case h5 => (simp only [List.getElem?_toArray, List.getElem?_cons_succ, List.getElem?_cons_zero] <;> rfl)
      go_simp
      refine (attribute_calls (.node t2 d2 ks2) _ _ _ _ (TreeAt.below (Below.refl _ _).drew _ _ _ _ HX5.out) (by have := HBL.out; omega)).mono ?_
      rintro e w6 ⟨A6, c6, rfl, hown6, hb6⟩
      have B6 : Below w5.heap.size w5 w6 := below_trans (Below.refl _ _).drew hb6
      have cvB := conv_all _ _ _ (own_bytesF hown6).at_
      rw [← HSTR.out] at cvB
      have HB6 := Lib.hid (BA5.out.trans (B6.mono BA5.out.size))
      refine hK.out _ _ ?s5 (fun hHeld => ?_)
      case s5 => exact CV.out _ B6
      clear hK K
      try simp only [Act.put, List.setIfInBounds_toArray, List.set_cons_zero, List.set_cons_succ]
      clear hown6 hb6
      refine wpAnyH_imp (S' := fun W => W = w6) (fun W hW => hW ▸ hHeld) _ _ _ _ ?_
      have hHeld3 : (fun W => W = w6) w6 := rfl
      refine wpAnyH_take (i := 6) (oi := ?o6) (v := ?v6) ?h6 (by kernel_rfl) (by kernel_rfl) (by kernel_rfl) ?q6 (Or.inl ⟨?w6, ?y6⟩) (by assumption) ?r6
      case h6 => (simp only [List.getElem?_toArray, List.getElem?_cons_succ, List.getElem?_cons_zero] <;> rfl)
      case q6 => exact fun _ _ _ h => h
      case w6 => rfl
      case y6 => (intro w hSw; (try dsimp only at hSw); go_simp; (try with_reducible rfl))
      try simp only [Act.put, List.setIfInBounds_toArray, List.set_cons_zero, List.set_cons_succ]
      refine wpAnyH_take (i := 7) (oi := ?o7) (v := ?v7) ?h7 (by kernel_rfl) (by kernel_rfl) (by kernel_rfl) ?q7 (Or.inl ⟨?w7, ?y7⟩) (by assumption) ?r7
      case h7 => (simp only [List.getElem?_toArray, List.getElem?_cons_succ, List.getElem?_cons_zero] <;> rfl)
      case q7 => exact fun _ _ _ h => h
      case w7 => rfl
      case y7 => (intro w hSw; (try dsimp only at hSw); go_simp; (try with_reducible rfl))
      try simp only [Act.put, List.setIfInBounds_toArray, List.set_cons_zero, List.set_cons_succ]
      refine wpAnyH_take (i := 8) (oi := ?o8) (v := ?v8) ?h8 (by kernel_rfl) (by kernel_rfl) (by kernel_rfl) ?q8 (Or.inl ⟨?w8, ?y8⟩) (by assumption) ?r8
      case h8 => (simp only [List.getElem?_toArray, List.getElem?_cons_succ, List.getElem?_cons_zero] <;> rfl)
      case q8 => exact fun _ _ _ h => h
      case w8 => rfl
      case y8 => (intro w hSw; (try dsimp only at hSw); go_simp; (try with_reducible rfl))
      try simp only [Act.put, List.setIfInBounds_toArray, List.set_cons_zero, List.set_cons_succ]
      refine wpAnyH_take (i := 9) (oi := ?o9) (v := ?v9) ?h9 (by kernel_rfl) (by kernel_rfl) (by kernel_rfl) ?q9 (Or.inl ⟨?w9, ?y9⟩) (by assumption) ?r9
      case h9 => (simp only [List.getElem?_toArray, List.getElem?_cons_succ, List.getElem?_cons_zero] <;> rfl)
      case q9 => exact fun _ _ _ h => h
      case w9 => rfl
      case y9 => (intro w hSw; (try dsimp only at hSw); go_simp; (try with_reducible rfl))
      try simp only [Act.put, List.setIfInBounds_toArray, List.set_cons_zero, List.set_cons_succ]
      refine wpAnyH_ready (rs := [10]) (by kernel_rfl) (by simp) ?_
      refine AllReadyH.cons (o := ?o10) ?h10 (fun K hK => ?_) AllReadyH.nil
      case h10 => (simp only [List.getElem?_toArray, List.getElem?_cons_succ, List.getElem?_cons_zero] <;> rfl)
      go_simp
      refine (works_calls _).mono ?_
      rintro e w' ⟨rfl, rfl⟩
      refine hK.out _ _ ?s10 (fun hHeld => ?_)
      case s10 => rfl
      clear hK K
      try simp only [Act.put, List.setIfInBounds_toArray, List.set_cons_zero, List.set_cons_succ]
      refine wpAnyH_take (i := 11) (oi := ?o11) (v := ?v11) ?h11 (by kernel_rfl) (by kernel_rfl) (by kernel_rfl) ?q11 (Or.inl ⟨?w11, ?y11⟩) (by assumption) ?r11
      case h11 => (simp only [List.getElem?_toArray, List.getElem?_cons_succ, List.getElem?_cons_zero] <;> rfl)
      case q11 => exact fun _ _ _ h => h
      case w11 => rfl
      case y11 => (intro w hSw; (try dsimp only at hSw); go_simp; (try with_reducible rfl))
      try simp only [Act.put, List.setIfInBounds_toArray, List.set_cons_zero, List.set_cons_succ]
      refine wpAnyH_take (i := 12) (oi := ?o12) (v := ?v12) ?h12 (by kernel_rfl) (by kernel_rfl) (by kernel_rfl) ?q12 (Or.inl ⟨?w12, ?y12⟩) (by assumption) ?r12
      case h12 => (simp only [List.getElem?_toArray, List.getElem?_cons_succ, List.getElem?_cons_zero] <;> rfl)
      case q12 => exact fun _ _ _ h => h
      case w12 => rfl
      case y12 => (intro w hSw; (try dsimp only at hSw); go_simp; (try with_reducible rfl))
      try simp only [Act.put, List.setIfInBounds_toArray, List.set_cons_zero, List.set_cons_succ]
      refine wpAnyH_done (by kernel_rfl) ?_ _
      go_wp2_with fail
      go_ret
      exact ⟨rfl, HB6.out⟩
end Go.Proofs.Ytbogknjgjbhagaa
