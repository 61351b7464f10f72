/- The statement on labels, walked: whatever list of whole numbers comes in, it answers true. -/
import Derived.Test.YtbogknjgjbhagaaLab4
import Derived.Deep.RegionHeld3
namespace Go.Proofs.Ytbogknjgjbhagaa
open Go.RowKit
set_option linter.unusedSimpArgs false

theorem conv_bytes (A : Option Addr) (n c : Nat) (xs : List Int) (w : World) (h : Rd w A (bytesC xs)) (hl : xs.length = n) (h0 : 0 < n) : (convert 31 9 (.slice A n c)).run Try.prog w = .ok (.string (strOfNums xs)) w := by
  obtain ⟨b, o, rfl, hc⟩ := h (by intro h; have := congrArg List.length h; simp only [bytesC_length, List.length_nil] at this; omega)
  exact run_convert_bytes_arg w 31 5 Try.underlying31 Try.underlying5 b o n c xs hl (fun i hi => by
    rw [hc i (.int .u8 (xs.getD i 0)) (by simp [bytesC, List.getD_eq_getElem?_getD, List.getElem?_eq_getElem (show i < xs.length by omega)])]) 9 Try.underlying9

/-- A condition that says more serves as well. -/
theorem wpAnyH_imp {P : Program} {ops : Array Oper} {Q : Exit → Act → World → Prop} {md : Region.Mode} {S S' : World → Prop} (h : ∀ w, S' w → S w) :
    ∀ (fuel : Nat) (listed : Array Bool) (a : Act) (w : World), wpAnyH P md ops Q S' fuel listed a w → wpAnyH P md ops Q S fuel listed a w
  | 0, _, _, _, hh => hh
  | fuel + 1, _, _, _, hh => ⟨hh.1, fun i hi => wpOp_mono (fun a' w' h' => ⟨h w' h'.1, wpAnyH_imp h fuel _ a' w' h'.2⟩) (hh.2 i hi)⟩

def labsOk (l : List Int) : Prop := ∀ x ∈ l, 0 ≤ x ∧ x < 1048576

/-- None, or too many: nothing is compared. -/
theorem fnLabels_few (A : Option Addr) (n c : Nat) (w : World) (h : n = 0 ∨ 30 < n) (hn : n ≤ 9223372036854775807) :
    Calls Try.prog 4 #[.slice A n c] w fun e w' => e = .returned (.bool true) ∧ Below w.heap.size w w' := by
  by_cases h1 : 2147483647 < n
  · go_enter Try.func4, Try.ntmps4
    go_wp2_with fail
    go_ret
    exact ⟨rfl, Below.refl _ _⟩
  · by_cases h0 : n = 0
    · subst h0
      go_enter Try.func4, Try.ntmps4
      go_wp2_with (go_at_call 11; refine (works_calls _).mono ?_; rintro e w' ⟨rfl, rfl⟩)
      go_ret
      exact ⟨rfl, Below.refl _ _⟩
    · have h2 : 30 < n := by omega
      have h3 : 0 < n := by omega
      clear h h0
      go_enter Try.func4, Try.ntmps4
      go_wp2_with (go_at_call 11; refine (works_calls _).mono ?_; rintro e w' ⟨rfl, rfl⟩)
      go_ret
      exact ⟨rfl, Below.refl _ _⟩

set_option maxHeartbeats 2000000 in
set_option maxRecDepth 100000 in
theorem fnLabels_some (b o c : Nat) (l : List Int) (w : World) (hc : ∀ j u, (intsC l)[j]? = some u → w.cell? ⟨b, o + j, none⟩ = some u) (h30 : l.length ≤ 30) (h0 : 0 < l.length) (hlc : l.length ≤ c) :
    Calls Try.prog 4 #[.slice (some ⟨b, o, none⟩) l.length c] w fun e w' => e = .returned (.bool true) ∧ Below w.heap.size w w' := by
  have HC := Lib.hid hc
  clear hc
  have t0 : ((l.length : Int) == 0) = false := by rw [beq_eq_false_iff_ne]; omega
  have t1 : ¬ (30 : Int) < (l.length : Int) := by omega
  have t2 : ¬ (2147483647 : Int) < (l.length : Int) := by omega
  go_enter Try.func4, Try.ntmps4
  go_wp2_with fail
  go_loop [22] (fun i => ∃ k : Nat, k ≤ l.length ∧ i = .int .i64 k ∧ labsOk (l.take k)) (fun i => l.length - (intOf i).toNat)
  case atStart => exact ⟨0, Nat.zero_le _, rfl, fun x hx => by simp at hx⟩
  case round =>
    obtain ⟨k, hk, rfl, hok⟩ := hrel
    have HOK := Lib.hid hok
    clear hok
    by_cases hlt : k < l.length
    · obtain ⟨x, hx⟩ : ∃ x, x = l[k] := ⟨_, rfl⟩
      have hcell : w.cell? ⟨b, o + k, none⟩ = some (.int .i64 x) := HC.out k _ (by rw [hx]; simp [intsC, List.getElem?_eq_getElem hlt])
      have HX := Lib.hid hx
      clear hx
      by_cases hx0 : x < 0
      · go_wp2_with (go_at_call 11; refine (works_calls _).mono ?_; rintro e w' ⟨rfl, rfl⟩)
        go_ret
        exact ⟨rfl, Below.refl _ _⟩
      · by_cases hx1 : 1048576 ≤ x
        · have hx0' : decide (x < 0) = false := by simpa using hx0
          go_wp2_with (go_at_call 11; refine (works_calls _).mono ?_; rintro e w' ⟨rfl, rfl⟩)
          go_ret
          exact ⟨rfl, Below.refl _ _⟩
        · go_wp2_with fail
          go_round
          case rel =>
            refine ⟨k + 1, by omega, by go_num, fun z hz => ?_⟩
            rw [List.take_succ_eq_append_getElem hlt, List.mem_append] at hz
            rcases hz with hz | hz
            · exact HOK.out z hz
            · rw [List.mem_singleton.1 hz, ← HX.out]; omega
          case measure => simp [intOf]; omega
    · have hkl : k = l.length := by omega
      subst hkl
      have hl : labsOk l := by simpa using HOK.out
      have HL := Lib.hid hl
      clear hl HOK
      go_wp2_with fail
      refine (spec_Labels_calls b o c l w (fun j hj => HC.out j _ (by simp [intsC, List.getElem?_eq_getElem hj])) HL.out h30 hlc).mono ?_
      rintro e w1 ⟨v1, rfl, hown1, hb1⟩
      obtain ⟨A1, k1, rfl, hk1, hr1, hn1⟩ := Rd.of_own hown1
      obtain ⟨b1, o1, rfl, hc1⟩ := hr1 (by intro h; have := congrArg List.length h; simp only [bytesC_length, labB_length, List.length_nil] at this; omega)
      have HB1 := Lib.hid hb1
      have HC1 := Lib.hid hc1
      clear hown1 hr1 hn1 hb1 hc1
      go_wp2_with fail
      refine (fromLabels_calls b1 o1 k1 l w1 HC1.out HL.out h30 h0).mono ?_
      rintro e w2 ⟨v2, rfl, hown2, hb2⟩
      obtain ⟨A2, k2, rfl, hk2, hr2, hn2⟩ := Rd.of_own hown2
      obtain ⟨b2, o2, rfl, hc2⟩ := hr2 (by intro h; have := congrArg List.length h; simp only [intsC_length, List.length_nil] at this; omega)
      have HB2 := Lib.hid hb2
      have HC2 := Lib.hid hc2
      clear hown2 hr2 hn2 hb2 hc2
      have cvA := conv_bytes (some ⟨b1, o1, none⟩) (4 * l.length) k1 (labB l l.length) w2.drew (fun _ => ⟨b1, o1, rfl, cells_below HB2.out.drew HC1.out⟩) (labB_length _ _) (by omega)
      have B2 := Lib.hid (HB1.out.trans (HB2.out.mono HB1.out.size))
      go_wp2_with fail
      refine wp_region_held_drew (S := fun w' => (convert 31 9 (.slice (some ⟨b1, o1, none⟩) (4 * l.length) k1)).run Try.prog w' = .ok (.string (strOfNums (labB l l.length))) w' ∧ Below w2.heap.size w2 w') (by kernel_rfl) ⟨cvA, (Below.refl _ _).drew⟩ (fun hHeld => ?_)
      refine wpAnyH_take (i := 0) (oi := ?o0) (v := ?v0) ?h0 (by kernel_rfl) (by kernel_rfl) (by kernel_rfl) ?q0 (Or.inl ⟨?w0, ?y0⟩) (by assumption) ?r0
      case h0 => (simp only [List.getElem?_toArray, List.getElem?_cons_succ, List.getElem?_cons_zero]; rfl)
      case q0 => exact fun _ _ _ h => h
      case w0 => rfl
      case y0 => (intro w hSw; (try dsimp only at hSw); go_simp; (try with_reducible rfl))
      try simp only [Act.put, List.setIfInBounds_toArray, List.set_cons_zero, List.set_cons_succ]
      refine wpAnyH_take (i := 3) (oi := ?o3) (v := ?v3) ?h3 (by kernel_rfl) (by kernel_rfl) (by kernel_rfl) ?q3 (Or.inl ⟨?w3, ?y3⟩) (by assumption) ?r3
      case h3 => (simp only [List.getElem?_toArray, List.getElem?_cons_succ, List.getElem?_cons_zero]; rfl)
      case q3 => exact fun _ _ _ h => h
      case w3 => rfl
      case y3 => (intro w hSw; (try dsimp only at hSw); go_simp; (try with_reducible rfl))
      try simp only [Act.put, List.setIfInBounds_toArray, List.set_cons_zero, List.set_cons_succ]
      refine wpAnyH_take (i := 4) (oi := ?o4) (v := ?v4) ?h4 (by kernel_rfl) (by kernel_rfl) (by kernel_rfl) ?q4 (Or.inl ⟨?w4, ?y4⟩) (by assumption) ?r4
      case h4 => (simp only [List.getElem?_toArray, List.getElem?_cons_succ, List.getElem?_cons_zero]; rfl)
      case q4 => exact fun _ _ _ h => h
      case w4 => rfl
      case y4 => (intro w hSw; (try dsimp only at hSw); go_simp; (try with_reducible rfl))
      try simp only [Act.put, List.setIfInBounds_toArray, List.set_cons_zero, List.set_cons_succ]
      refine wpAnyH_ready (rs := [1]) (by kernel_rfl) (by simp) ?_
      refine AllReadyH.cons (o := ?o1) ?h1 (fun K hK => ?_) AllReadyH.nil
      case h1 => (simp only [List.getElem?_toArray, List.getElem?_cons_succ, List.getElem?_cons_zero]; rfl)
      go_simp
      refine (implLabels_calls b o c l _ (by exact cells_below B2.out.drew HC.out) HL.out h30 h0).mono ?_
      rintro e w3 ⟨v3, rfl, hown3, hb3⟩
      obtain ⟨A3, k3, rfl, -, hr3, -⟩ := Rd.of_own hown3
      have cvB := conv_bytes A3 (4 * l.length) k3 (labB l l.length) w3 hr3 (labB_length _ _) (by omega)
      have cvC := conv_bytes (some ⟨b1, o1, none⟩) (4 * l.length) k1 (labB l l.length) w3 (fun _ => ⟨b1, o1, rfl, cells_below hb3 (cells_below HB2.out.drew HC1.out)⟩) (labB_length _ _) (by omega)
      have HB3 := Lib.hid (show Below w2.heap.size w2 w3 from ((Below.refl _ _).drew).trans hb3)
      clear hown3 hb3 hr3
      refine hK.out _ _ ?s1 (fun hHeld => ?_)
      case s1 => exact ⟨cvC, HB3.out⟩
      clear hK K
      try simp only [Act.put, List.setIfInBounds_toArray, List.set_cons_zero, List.set_cons_succ]
      refine wpAnyH_imp (S' := fun W => W = w3) (fun W hW => hW ▸ hHeld) _ _ _ _ ?_
      have hHeld3 : (fun W => W = w3) w3 := rfl
      refine wpAnyH_take (i := 2) (oi := ?o2) (v := ?v2) ?h2 (by kernel_rfl) (by kernel_rfl) (by kernel_rfl) ?q2 (Or.inl ⟨?w2, ?y2⟩) (by assumption) ?r2
      case h2 => (simp only [List.getElem?_toArray, List.getElem?_cons_succ, List.getElem?_cons_zero]; rfl)
      case q2 => exact fun _ _ _ h => h
      case w2 => rfl
      case y2 => (intro w hSw; (try dsimp only at hSw); go_simp; (try with_reducible rfl))
      try simp only [Act.put, List.setIfInBounds_toArray, List.set_cons_zero, List.set_cons_succ]
      refine wpAnyH_take (i := 5) (oi := ?o5) (v := ?v5) ?h5 (by kernel_rfl) (by kernel_rfl) (by kernel_rfl) ?q5 (Or.inl ⟨?w5, ?y5⟩) (by assumption) ?r5
      case h5 => (simp only [List.getElem?_toArray, List.getElem?_cons_succ, List.getElem?_cons_zero]; rfl)
      case q5 => exact fun _ _ _ h => h
      case w5 => rfl
      case y5 => (intro w hSw; (try dsimp only at hSw); go_simp; (try with_reducible rfl))
      try simp only [Act.put, List.setIfInBounds_toArray, List.set_cons_zero, List.set_cons_succ]
      refine wpAnyH_take (i := 6) (oi := ?o6) (v := ?v6) ?h6 (by kernel_rfl) (by kernel_rfl) (by kernel_rfl) ?q6 (Or.inl ⟨?w6, ?y6⟩) (by assumption) ?r6
      case h6 => (simp only [List.getElem?_toArray, List.getElem?_cons_succ, List.getElem?_cons_zero]; rfl)
      case q6 => exact fun _ _ _ h => h
      case w6 => rfl
      case y6 => (intro w hSw; (try dsimp only at hSw); go_simp; (try with_reducible rfl))
      try simp only [Act.put, List.setIfInBounds_toArray, List.set_cons_zero, List.set_cons_succ]
      refine wpAnyH_take (i := 7) (oi := ?o7) (v := ?v7) ?h7 (by kernel_rfl) (by kernel_rfl) (by kernel_rfl) ?q7 (Or.inl ⟨?w7, ?y7⟩) (by assumption) ?r7
      case h7 => (simp only [List.getElem?_toArray, List.getElem?_cons_succ, List.getElem?_cons_zero]; rfl)
      case q7 => exact fun _ _ _ h => h
      case w7 => rfl
      case y7 => (intro w hSw; (try dsimp only at hSw); go_simp; (try with_reducible rfl))
      try simp only [Act.put, List.setIfInBounds_toArray, List.set_cons_zero, List.set_cons_succ]
      refine wpAnyH_take (i := 8) (oi := ?o8) (v := ?v8) ?h8 (by kernel_rfl) (by kernel_rfl) (by kernel_rfl) ?q8 (Or.inl ⟨?w8, ?y8⟩) (by assumption) ?r8
      case h8 => (simp only [List.getElem?_toArray, List.getElem?_cons_succ, List.getElem?_cons_zero]; rfl)
      case q8 => exact fun _ _ _ h => h
      case w8 => rfl
      case y8 => (intro w hSw; (try dsimp only at hSw); go_simp; (try with_reducible rfl))
      try simp only [Act.put, List.setIfInBounds_toArray, List.set_cons_zero, List.set_cons_succ]
      refine wpAnyH_take (i := 9) (oi := ?o9) (v := ?v9) ?h9 (by kernel_rfl) (by kernel_rfl) (by kernel_rfl) ?q9 (Or.inl ⟨?w9, ?y9⟩) (by assumption) ?r9
      case h9 => (simp only [List.getElem?_toArray, List.getElem?_cons_succ, List.getElem?_cons_zero]; rfl)
      case q9 => exact fun _ _ _ h => h
      case w9 => rfl
      case y9 => (intro w hSw; (try dsimp only at hSw); go_simp; (try with_reducible rfl))
      try simp only [Act.put, List.setIfInBounds_toArray, List.set_cons_zero, List.set_cons_succ]
      refine wpAnyH_take (i := 10) (oi := ?o10) (v := ?v10) ?h10 (by kernel_rfl) (by kernel_rfl) (by kernel_rfl) ?q10 (Or.inl ⟨?w10, ?y10⟩) (by assumption) ?r10
      case h10 => (simp only [List.getElem?_toArray, List.getElem?_cons_succ, List.getElem?_cons_zero]; rfl)
      case q10 => exact fun _ _ _ h => h
      case w10 => rfl
      case y10 => (intro w hSw; (try dsimp only at hSw); go_simp; (try with_reducible rfl))
      try simp only [Act.put, List.setIfInBounds_toArray, List.set_cons_zero, List.set_cons_succ]
      refine wpAnyH_take (i := 11) (oi := ?o11) (v := ?v11) ?h11 (by kernel_rfl) (by kernel_rfl) (by kernel_rfl) ?q11 (Or.inl ⟨?w11, ?y11⟩) (by assumption) ?r11
      case h11 => (simp only [List.getElem?_toArray, List.getElem?_cons_succ, List.getElem?_cons_zero]; rfl)
      case q11 => exact fun _ _ _ h => h
      case w11 => rfl
      case y11 => (intro w hSw; (try dsimp only at hSw); go_simp; (try with_reducible rfl))
      try simp only [Act.put, List.setIfInBounds_toArray, List.set_cons_zero, List.set_cons_succ]
      refine wpAnyH_take (i := 12) (oi := ?o12) (v := ?v12) ?h12 (by kernel_rfl) (by kernel_rfl) (by kernel_rfl) ?q12 (Or.inl ⟨?w12, ?y12⟩) (by assumption) ?r12
      case h12 => (simp only [List.getElem?_toArray, List.getElem?_cons_succ, List.getElem?_cons_zero]; rfl)
      case q12 => exact fun _ _ _ h => h
      case w12 => rfl
      case y12 => (intro w hSw; (try dsimp only at hSw); go_simp; (try with_reducible rfl))
      try simp only [Act.put, List.setIfInBounds_toArray, List.set_cons_zero, List.set_cons_succ]
      refine wpAnyH_done (by kernel_rfl) ?_ _
      clear cvA cvB cvC hHeld hHeld3
      have hcA : ∀ j u, (intsC l)[j]? = some u → w3.cell? ⟨b, o + j, none⟩ = some u := cells_below (B2.out.trans (HB3.out.mono B2.out.size)) HC.out
      have hcB : ∀ j u, (intsC l)[j]? = some u → w3.cell? ⟨b2, o2 + j, none⟩ = some u := cells_below HB3.out HC2.out
      have HCA := Lib.hid hcA
      have HCB := Lib.hid hcB
      clear hcA hcB
      go_wp2_with fail
      go_loopw [53] (fun i wr => ∃ k : Nat, k ≤ l.length ∧ i = .int .i64 k ∧ ∃ m, wr = w3.drewN m) (fun i _ => l.length - (intOf i).toNat)
      case atStart => exact ⟨0, Nat.zero_le _, rfl, 0, rfl⟩
      case round =>
        obtain ⟨k, hk, rfl, m, rfl⟩ := hrel
        by_cases hlt : k < l.length
        · obtain ⟨x, hx⟩ : ∃ x, x = l[k] := ⟨_, rfl⟩
          have c1 : w3.cell? ⟨b, o + k, none⟩ = some (.int .i64 x) := HCA.out k _ (by rw [hx]; simp [intsC, List.getElem?_eq_getElem hlt])
          have c2 : w3.cell? ⟨b2, o2 + k, none⟩ = some (.int .i64 x) := HCB.out k _ (by rw [hx]; simp [intsC, List.getElem?_eq_getElem hlt])
          clear hx
          go_wp2_with fail
          go_quiet (fail)
          go_wp2_with fail
          go_roundw
          case rel => exact ⟨k + 1, by omega, by go_num, _, rfl⟩
          case measure => simp [intOf]; omega
        · go_wp2_with (go_at_call 11; refine (works_calls _).mono ?_; rintro e w' ⟨rfl, rfl⟩)
          go_ret
          exact ⟨rfl, below_drewN (B2.out.trans (HB3.out.mono B2.out.size)) m⟩

end Go.Proofs.Ytbogknjgjbhagaa
