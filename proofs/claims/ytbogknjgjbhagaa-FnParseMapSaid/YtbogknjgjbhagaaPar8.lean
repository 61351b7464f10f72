/- The statement on attributes that are read: it answers true, whatever list comes in. -/
import Derived.Test.YtbogknjgjbhagaaPar7
namespace Go.Proofs.Ytbogknjgjbhagaa
open Go.RowKit
set_option linter.unusedSimpArgs false

set_option maxHeartbeats 1000000 in
theorem specAlign_calls (n : Int) (w : World) (h : 0 ≤ n ∧ n ≤ 1000000) : Calls Try.prog 15 #[.int .i64 n] w fun e w' => e = .returned (.int .i64 ((n + 3) / 4 * 4)) ∧ w = w' := by
  go_enter Try.func15, Try.ntmps15
  go_wp2_with fail
  go_ret
  refine ⟨?_, rfl⟩
  rfl

/-- An attribute of which the last n bytes of data are wanting. -/
def cutB (x : Int × List Int) (n : Nat) : List Int := (attrB (leaf x)).take (4 + x.2.length - n)
theorem cutB_length (x : Int × List Int) (n : Nat) : (cutB x n).length = 4 + x.2.length - n := by
  rw [cutB, List.length_take, leaf_len]; omega
theorem cutB_bad (x : Int × List Int) (n : Nat) (h0 : 0 < n) (hn : n ≤ x.2.length) (hd : x.2.length ≤ 300) : Bad (cutB x n) := by
  refine ⟨lowB ((x.2.length : Int) + 4) 2, lowB x.1 2, x.2.take (x.2.length - n), ?_, lowB_all _ _, lowB_all _ _, lowB_length _ _, lowB_length _ _, ?_, ?_⟩
  · rw [cutB, leaf_eq, ← List.append_assoc, List.take_append, List.take_of_length_le (by simp; omega)]
    congr 1
    rw [List.take_append_of_le_length (by simp; omega)]
    congr 1
    simp; omega
  · rw [lowB2 _ (by omega)]; omega
  · rw [lowB2 _ (by omega), cutB_length]; omega
theorem cut_rd {w : World} {A : Option Addr} {l : List (Int × List Int)} {k n : Nat} (hl : l.length = k + 1) (h : Rd w A (bytesC (listB l))) : Rd w A (bytesC (listB (l.take k) ++ cutB (l[k]'(by omega)) n)) := by
  have e : listB l = listB (l.take k) ++ cutB (l[k]'(by omega)) n ++ (attrB (leaf (l[k]'(by omega)))).drop (4 + (l[k]'(by omega)).2.length - n) := by
    rw [listB_split l k (by omega), List.drop_eq_nil_of_le (by omega), cutB, List.append_assoc, List.take_append_drop]
    simp [listB, attrsB]
  rw [e, bytesC, List.map_append] at h
  exact h.pre
theorem cut_len {l : List (Int × List Int)} {k n : Nat} (hl : l.length = k + 1) (hn : n ≤ (l[k]'(by omega)).2.length) : (listB (l.take k) ++ cutB (l[k]'(by omega)) n).length + ((l[k]'(by omega)).2.length + 3) / 4 * 4 + n = (listB l).length + (l[k]'(by omega)).2.length := by
  rw [List.length_append, cutB_length, listB_split l k (by omega), List.drop_eq_nil_of_le (by omega), List.length_append, List.length_append, leaf_len]
  simp [listB, attrsB]
  omega

set_option maxHeartbeats 2000000 in
set_option maxRecDepth 100000 in
theorem fnParse_calls (v : Value) (n : Int) (l : List (Int × List Int)) (w : World) (hv : PairsV w v l) (hl : LenOk l) (hb : ∀ x ∈ l, AllB x.2) (hn : -9223372036854775808 ≤ n ∧ n ≤ 9223372036854775807) :
    Calls Try.prog 6 #[v, .int .i64 n] w fun e w' => e = .returned (.bool true) ∧ Below w.heap.size w w' := by
  have HV := Lib.hid hv
  have HL := Lib.hid hl
  have HAB := Lib.hid hb
  obtain ⟨hs, A, c, rfl, hc, hrd, -, hmt⟩ := hv
  have HRD := Lib.hid hrd
  have HMT := Lib.hid hmt
  clear hrd hmt
  have hl1 := hl.1
  clear hl hb
  go_enter Try.func6, Try.ntmps6
  go_wp2_with fail
  refine (zzFits2_calls _ l w HV.out HL.out).mono ?_
  rintro e w1 ⟨r, rfl, hr, hb1⟩
  have HB1 := Lib.hid hb1
  have HR := Lib.hid hr
  clear hb1 hr
  cases r with
  | false =>
    go_wp2_with fail
    go_ret
    exact ⟨rfl, HB1.out⟩
  | true =>
    have hlen := HR.out rfl
    clear HR
    go_wp2_with fail
    refine (attrs_calls _ l w1 (HV.out.below HB1.out) HL.out hlen).mono ?_
    rintro e w2 ⟨v2, r2, rfl, hr2, hb2⟩
    have HB2 := Lib.hid (below_trans HB1.out hb2)
    clear hb2
    cases r2 with
    | false =>
      clear hr2
      go_wp2_with (go_at_call 11; refine (works_calls _).mono ?_; rintro e w' ⟨rfl, rfl⟩)
      go_ret
      exact ⟨rfl, HB2.out⟩
    | true =>
      obtain ⟨h20, hok, hpv⟩ := hr2 rfl
      obtain ⟨hs2, A2, c2, rfl, hc2, hrest⟩ := hpv
      have HPV : Hid (PairsV w2 (.slice A2 l.length c2) l) := ⟨hs2, A2, c2, rfl, hc2, hrest⟩
      have HOK := Lib.hid hok
      have hbound : (listB l).length ≤ 10000 := by have := listB_bound l hok; omega
      clear hr2 hok hrest
      go_wp2_with fail
      refine (bytes_calls _ l w2 HPV.out HAB.out HOK.out h20).mono ?_
      rintro e w3 ⟨v3, rfl, hown3, hb3⟩
      obtain ⟨A3, c3, rfl, hc3, hr3, hn3⟩ := Rd.of_own hown3
      have HB3 := Lib.hid (below_trans HB2.out hb3)
      have HP3 := Lib.hid (HPV.out.below hb3)
      have HR3 := Lib.hid hr3
      have HN3 := Lib.hid hn3
      obtain ⟨m, hm⟩ : ∃ m, m = (listB l).length := ⟨_, rfl⟩
      rw [← hm]
      rw [← hm] at hc3 hbound HN3
      have HM := Lib.hid hm
      clear hown3 hb3 hr3 hn3 hm
      go_wp2_with fail
      refine (parse_good A3 m c3 l w3 HR3.out HM.out (fun h => (HN3.out h).1) HOK.out HAB.out h20 (by omega)).mono ?_
      rintro e w4 ⟨v4, rfl, hp4, hb4⟩
      have HB4 := Lib.hid (below_trans HB3.out hb4)
      have HP4 := Lib.hid hp4
      have HPX4 := Lib.hid (HP3.out.below hb4)
      have HR4 := Lib.hid (HR3.out.below hb4)
      clear hp4 hb4
      go_wp2_with fail
      refine (same_calls _ _ l w4 HP4.out HPX4.out (by omega)).mono ?_
      rintro e w5 ⟨rfl, hb5⟩
      have HB5 := Lib.hid (below_trans HB4.out hb5)
      have HPX5 := Lib.hid (HPX4.out.below hb5)
      have HR5 := Lib.hid (HR4.out.below hb5)
      clear hb5
      go_wp2_with fail
      refine (parseAll_calls A3 m c3 l w5 HR5.out HM.out (fun h => (HN3.out h).1) HOK.out HAB.out h20 (by omega)).mono ?_
      rintro e w6 ⟨v6, rfl, hp6, hb6⟩
      have HB6 := Lib.hid (below_trans HB5.out hb6)
      have HP6 := Lib.hid hp6
      have HPX6 := Lib.hid (HPX5.out.below hb6)
      have HR6 := Lib.hid (HR5.out.below hb6)
      clear hp6 hb6
      go_wp2_with fail
      refine (same_calls _ _ l w6 HP6.out HPX6.out (by omega)).mono ?_
      rintro e w7 ⟨rfl, hb7⟩
      have HB7 := Lib.hid (below_trans HB6.out hb7)
      have HR7 := Lib.hid (HR6.out.below hb7)
      clear hb7
      by_cases h0 : l.length = 0
      · go_wp2_with (go_at_call 11; refine (works_calls _).mono ?_; rintro e w' ⟨rfl, rfl⟩)
        go_ret
        exact ⟨rfl, HB7.out⟩
      · obtain ⟨k, hk⟩ : ∃ k, l.length = k + 1 := ⟨l.length - 1, by omega⟩
        have hkl : k < l.length := by omega
        have hs7 := HB7.out.size
        obtain ⟨b, o, a, nn, cc, rfl, -, e0, e1, e2⟩ := pair_at HRD.out HMT.out k hkl
        have f0 := cells_one HB7.out e0
        have f1 := cells_one HB7.out e1
        have hnn : nn = l[k].2.length := by
          obtain ⟨A', c'', h1, -⟩ := e2
          injection h1
        have hxo := HOK.out _ (List.getElem_mem hkl)
        have hcl := @cut_len l k n.toNat hk
        have hcr := cut_rd (n := n.toNat) hk HR7.out
        have htk : ∀ x ∈ l.take k, AttrOk x := fun x hx => HOK.out x (List.mem_of_mem_take hx)
        have htb : ∀ x ∈ l.take k, AllB x.2 := fun x hx => HAB.out x (List.mem_of_mem_take hx)
        have HTK := Lib.hid htk
        have HTB := Lib.hid htb
        obtain ⟨x, hx⟩ : ∃ x, x = l[k] := ⟨_, rfl⟩
        rw [← hx] at f0 hnn hxo hcr
        simp only [← hx] at hcl
        obtain ⟨t, d⟩ := x
        simp only [AttrOk] at f0 hnn hxo hcl
        subst hnn
        have HCR := Lib.hid hcr
        have HCL := Lib.hid hcl
        clear e0 e1 e2 hx hcl hcr htk htb
        by_cases hn0 : 0 < n
        · by_cases hnd : n ≤ (d.length : Int)
          · obtain ⟨p, rfl⟩ := Int.eq_ofNat_of_zero_le (show 0 ≤ n by omega)
            rw [Int.toNat_natCast] at HCR HCL
            have hq := HCL.out (by omega)
            obtain ⟨tail, ht⟩ : ∃ tail, tail = cutB (t, d) p := ⟨_, rfl⟩
            have hbad : Bad tail := by rw [ht]; exact cutB_bad (t, d) p (by omega) (by show p ≤ d.length; omega) (by show d.length ≤ 300; omega)
            rw [← ht] at hq HCR
            rw [← HM.out] at hq
            obtain ⟨q, hqq⟩ : ∃ q, q = (listB (l.take k) ++ tail).length := ⟨_, rfl⟩
            rw [← hqq] at hq
            have HQ := Lib.hid hqq
            have HBAD := Lib.hid hbad
            clear hqq hbad ht
            obtain ⟨al, hal⟩ : ∃ al, al = (d.length + 3) / 4 * 4 := ⟨_, rfl⟩
            rw [← hal] at hq
            have hal1 : d.length ≤ al := by omega
            have hal2 : ((d.length : Int) + 3) / 4 * 4 = (al : Int) := by omega
            have hal3 : al ≤ 303 := by omega
            have wa : IntKind.i64.wrap ((m : Int) - (al : Int)) = (m : Int) - (al : Int) := IntWalk.i64_in _ (by omega)
            have wb : IntKind.i64.wrap ((m : Int) - (al : Int) + (d.length : Int)) = (m : Int) - (al : Int) + (d.length : Int) := IntWalk.i64_in _ (by omega)
            have wc : IntKind.i64.wrap ((m : Int) - (al : Int) + (d.length : Int) - (p : Int)) = (q : Int) := by rw [show (m : Int) - (al : Int) + (d.length : Int) - (p : Int) = (q : Int) from by omega]; exact IntWalk.i64_in _ (by omega)
            have hqc : q ≤ c3 := by omega
            have hq0 : A3 = none → q = 0 := fun h => by have := (HN3.out h).1; omega
            have HQ0 := Lib.hid hq0
            have HA2 := Lib.hid hal2
            have HALL := Lib.hid hal
            have HQQ := Lib.hid hq
            have hqm : q ≤ 1000000 := by omega
            clear hq0 hal2 hal hq
            go_wp2_with fail
            have g1 : (w7.alloc (.cells #[.int .i64 t, .slice a d.length cc] 52)).cell? ⟨w7.heap.size, 1, none⟩ = some (.slice a d.length cc) := (cell_of_row _ _ 1 _ _ (0, 0) (heap_alloc_new w7 _)).trans rfl
            obtain ⟨W, hW⟩ : ∃ W, W = w7.alloc (.cells #[.int .i64 t, .slice a d.length cc] 52) := ⟨_, rfl⟩
            have BW : Below w7.heap.size w7 W := by rw [hW]; exact (Below.refl _ _).alloc (Nat.le_refl _) _
            rw [← hW] at g1
            rw [← hW]
            have G1 := Lib.hid g1
            have HBW := Lib.hid BW
            clear hW BW
            refine wp_region_held_drew (S := fun w' => w'.cell? ⟨w7.heap.size, 1, none⟩ = some (.slice a d.length cc)) (by kernel_rfl) G1.out (fun hHeld => ?_)
            refine wpAnyH_take (i := 0) (oi := ?o0) (v := ?v0) ?h0 (by kernel_rfl) (by kernel_rfl) (by kernel_rfl) ?q0 (Or.inl ⟨?w0, ?y0⟩) (by assumption) ?r0
            case h0 => (simp only [List.getElem?_toArray, List.getElem?_cons_succ, List.getElem?_cons_zero] <;> rfl)
            case q0 => exact fun _ _ _ h => h
            case w0 => rfl
            case y0 => (intro w hSw; (try dsimp only at hSw); go_simp; (try with_reducible rfl))
            try simp only [Act.put, List.setIfInBounds_toArray, List.set_cons_zero, List.set_cons_succ]
            refine wpAnyH_take (i := 1) (oi := ?o1) (v := ?v1) ?h1 (by kernel_rfl) (by kernel_rfl) (by kernel_rfl) ?q1 (Or.inl ⟨?w1, ?y1⟩) (by assumption) ?r1
            case h1 => (simp only [List.getElem?_toArray, List.getElem?_cons_succ, List.getElem?_cons_zero] <;> rfl)
            case q1 => exact fun _ _ _ h => h
            case w1 => rfl
            case y1 => (intro w hSw; (try dsimp only at hSw); go_simp; (try with_reducible rfl))
            try simp only [Act.put, List.setIfInBounds_toArray, List.set_cons_zero, List.set_cons_succ]
            refine wpAnyH_take (i := 2) (oi := ?o2) (v := ?v2) ?h2 (by kernel_rfl) (by kernel_rfl) (by kernel_rfl) ?q2 (Or.inl ⟨?w2, ?y2⟩) (by assumption) ?r2
            case h2 => (simp only [List.getElem?_toArray, List.getElem?_cons_succ, List.getElem?_cons_zero] <;> rfl)
            case q2 => exact fun _ _ _ h => h
            case w2 => rfl
            case y2 => (intro w hSw; (try dsimp only at hSw); go_simp; (try with_reducible rfl))
            try simp only [Act.put, List.setIfInBounds_toArray, List.set_cons_zero, List.set_cons_succ]
            refine wpAnyH_take (i := 3) (oi := ?o3) (v := ?v3) ?h3 (by kernel_rfl) (by kernel_rfl) (by kernel_rfl) ?q3 (Or.inl ⟨?w3, ?y3⟩) (by assumption) ?r3
            case h3 => (simp only [List.getElem?_toArray, List.getElem?_cons_succ, List.getElem?_cons_zero] <;> rfl)
            case q3 => exact fun _ _ _ h => h
            case w3 => rfl
            case y3 => (intro w hSw; (try dsimp only at hSw); go_simp; (try with_reducible rfl))
            try simp only [Act.put, List.setIfInBounds_toArray, List.set_cons_zero, List.set_cons_succ]
            refine wpAnyH_take (i := 4) (oi := ?o4) (v := ?v4) ?h4 (by kernel_rfl) (by kernel_rfl) (by kernel_rfl) ?q4 (Or.inl ⟨?w4, ?y4⟩) (by assumption) ?r4
            case h4 => (simp only [List.getElem?_toArray, List.getElem?_cons_succ, List.getElem?_cons_zero] <;> rfl)
            case q4 => exact fun _ _ _ h => h
            case w4 => rfl
            case y4 => (intro w hSw; (try dsimp only at hSw); go_simp; (try with_reducible rfl))
            try simp only [Act.put, List.setIfInBounds_toArray, List.set_cons_zero, List.set_cons_succ]
            refine wpAnyH_take (i := 5) (oi := ?o5) (v := ?v5) ?h5 (by kernel_rfl) (by kernel_rfl) (by kernel_rfl) ?q5 (Or.inl ⟨?w5, ?y5⟩) (by assumption) ?r5
            case h5 => (simp only [List.getElem?_toArray, List.getElem?_cons_succ, List.getElem?_cons_zero] <;> rfl)
            case q5 => exact fun _ _ _ h => h
            case w5 => rfl
            case y5 => (intro w hSw; (try dsimp only at hSw); go_simp; (try with_reducible rfl))
            try simp only [Act.put, List.setIfInBounds_toArray, List.set_cons_zero, List.set_cons_succ]
            refine wpAnyH_take (i := 8) (oi := ?o8) (v := ?v8) ?h8 (by kernel_rfl) (by kernel_rfl) (by kernel_rfl) ?q8 (Or.inl ⟨?w8, ?y8⟩) (by assumption) ?r8
            case h8 => (simp only [List.getElem?_toArray, List.getElem?_cons_succ, List.getElem?_cons_zero] <;> rfl)
            case q8 => exact fun _ _ _ h => h
            case w8 => rfl
            case y8 => (intro w hSw; (try dsimp only at hSw); go_simp; (try with_reducible rfl))
            try simp only [Act.put, List.setIfInBounds_toArray, List.set_cons_zero, List.set_cons_succ]
            refine wpAnyH_take (i := 9) (oi := ?o9) (v := ?v9) ?h9 (by kernel_rfl) (by kernel_rfl) (by kernel_rfl) ?q9 (Or.inl ⟨?w9, ?y9⟩) (by assumption) ?r9
            case h9 => (simp only [List.getElem?_toArray, List.getElem?_cons_succ, List.getElem?_cons_zero] <;> rfl)
            case q9 => exact fun _ _ _ h => h
            case w9 => rfl
            case y9 => (intro w hSw; (try dsimp only at hSw); go_simp; (try with_reducible rfl))
            try simp only [Act.put, List.setIfInBounds_toArray, List.set_cons_zero, List.set_cons_succ]
            refine wpAnyH_take (i := 10) (oi := ?o10) (v := ?v10) ?h10 (by kernel_rfl) (by kernel_rfl) (by kernel_rfl) ?q10 (Or.inl ⟨?w10, ?y10⟩) (by assumption) ?r10
            case h10 => (simp only [List.getElem?_toArray, List.getElem?_cons_succ, List.getElem?_cons_zero] <;> rfl)
            case q10 => exact fun _ _ _ h => h
            case w10 => rfl
            case y10 => (intro w hSw; (try dsimp only at hSw); go_simp; (try with_reducible rfl))
            try simp only [Act.put, List.setIfInBounds_toArray, List.set_cons_zero, List.set_cons_succ]
            refine wpAnyH_take (i := 12) (oi := ?o12) (v := ?v12) ?h12 (by kernel_rfl) (by kernel_rfl) (by kernel_rfl) ?q12 (Or.inl ⟨?w12, ?y12⟩) (by assumption) ?r12
            case h12 => (simp only [List.getElem?_toArray, List.getElem?_cons_succ, List.getElem?_cons_zero] <;> rfl)
            case q12 => exact fun _ _ _ h => h
            case w12 => rfl
            case y12 => (intro w hSw; (try dsimp only at hSw); go_simp; (try with_reducible rfl))
            try simp only [Act.put, List.setIfInBounds_toArray, List.set_cons_zero, List.set_cons_succ]
            refine wpAnyH_ready (rs := [6]) (by kernel_rfl) (by simp) ?_
            refine AllReadyH.cons (o := ?o6) ?h6 (fun K hK => ?_) AllReadyH.nil
            case h6 => (simp only [List.getElem?_toArray, List.getElem?_cons_succ, List.getElem?_cons_zero] <;> rfl)
            go_simp
            refine (specAlign_calls _ _ (by omega)).mono ?_
            rintro e w' ⟨rfl, rfl⟩
            rw [HA2.out]
            refine hK.out _ _ ?s6 (fun hHeld => ?_)
            case s6 => exact G1.out
            clear hK K
            try simp only [Act.put, List.setIfInBounds_toArray, List.set_cons_zero, List.set_cons_succ]
            refine wpAnyH_take (i := 7) (oi := ?o7) (v := ?v7) ?h7 (by kernel_rfl) (by kernel_rfl) (by kernel_rfl) ?q7 (Or.inl ⟨?w7, ?y7⟩) (by assumption) ?r7
            case h7 => (simp only [List.getElem?_toArray, List.getElem?_cons_succ, List.getElem?_cons_zero] <;> rfl)
            case q7 => exact fun _ _ _ h => h
            case w7 => rfl
            case y7 => (intro w hSw; (try dsimp only at hSw); go_simp; (try with_reducible rfl))
            try simp only [Act.put, List.setIfInBounds_toArray, List.set_cons_zero, List.set_cons_succ]
            refine wpAnyH_take (i := 11) (oi := ?o11) (v := ?v11) ?h11 (by kernel_rfl) (by kernel_rfl) (by kernel_rfl) ?q11 (Or.inl ⟨?w11, ?y11⟩) (by assumption) ?r11
            case h11 => (simp only [List.getElem?_toArray, List.getElem?_cons_succ, List.getElem?_cons_zero] <;> rfl)
            case q11 => exact fun _ _ _ h => h
            case w11 => rfl
            case y11 => (intro w hSw; (try dsimp only at hSw); go_simp; (try with_reducible rfl))
            try simp only [Act.put, List.setIfInBounds_toArray, List.set_cons_zero, List.set_cons_succ]
            refine wpAnyH_take (i := 13) (oi := ?o13) (v := ?v13) ?h13 (by kernel_rfl) (by kernel_rfl) (by kernel_rfl) ?q13 (Or.inl ⟨?w13, ?y13⟩) (by assumption) ?r13
            case h13 => (simp only [List.getElem?_toArray, List.getElem?_cons_succ, List.getElem?_cons_zero] <;> rfl)
            case q13 => exact fun _ _ _ h => h
            case w13 => rfl
            case y13 => (intro w hSw; (try dsimp only at hSw); go_simp; (try with_reducible rfl))
            try simp only [Act.put, List.setIfInBounds_toArray, List.set_cons_zero, List.set_cons_succ]
            refine wpAnyH_take (i := 14) (oi := ?o14) (v := ?v14) ?h14 (by kernel_rfl) (by kernel_rfl) (by kernel_rfl) ?q14 (Or.inl ⟨?w14, ?y14⟩) (by assumption) ?r14
            case h14 => (simp only [List.getElem?_toArray, List.getElem?_cons_succ, List.getElem?_cons_zero] <;> rfl)
            case q14 => exact fun _ _ _ h => h
            case w14 => rfl
            case y14 => (intro w hSw; (try dsimp only at hSw); go_simp; (try with_reducible rfl))
            try simp only [Act.put, List.setIfInBounds_toArray, List.set_cons_zero, List.set_cons_succ]
            refine wpAnyH_ready (rs := [15]) (by kernel_rfl) (by simp) ?_
            refine AllReadyH.cons (o := ?o15) ?h15 (fun K hK => ?_) AllReadyH.nil
            case h15 => (simp only [List.getElem?_toArray, List.getElem?_cons_succ, List.getElem?_cons_zero] <;> rfl)
            go_simp
            refine (parse_bad A3 q c3 (l.take k) tail _ (HCR.out.below (HBW.out.drew)) HQ.out HQ0.out HTK.out HTB.out (by rw [List.length_take]; omega) HBAD.out hqm).mono ?_
            rintro e w9 ⟨rfl, hb9⟩
            have D9 := below_trans (below_trans HBW.out (Below.refl _ _).drew) hb9
            have HB9 := Lib.hid (HB7.out.trans (D9.mono hs7))
            have D92 := below_trans (w := W) (Below.refl _ _).drew hb9
            refine hK.out _ _ ?s15 (fun hHeld => ?_)
            case s15 => exact cells_one D92 G1.out
            clear hK K
            try simp only [Act.put, List.setIfInBounds_toArray, List.set_cons_zero, List.set_cons_succ]
            refine wpAnyH_take (i := 16) (oi := ?o16) (v := ?v16) ?h16 (by kernel_rfl) (by kernel_rfl) (by kernel_rfl) ?q16 (Or.inl ⟨?w16, ?y16⟩) (by assumption) ?r16
            case h16 => (simp only [List.getElem?_toArray, List.getElem?_cons_succ, List.getElem?_cons_zero] <;> rfl)
            case q16 => exact fun _ _ _ h => h
            case w16 => rfl
            case y16 => (intro w hSw; (try dsimp only at hSw); go_simp; (try with_reducible rfl))
            try simp only [Act.put, List.setIfInBounds_toArray, List.set_cons_zero, List.set_cons_succ]
            refine wpAnyH_take (i := 17) (oi := ?o17) (v := ?v17) ?h17 (by kernel_rfl) (by kernel_rfl) (by kernel_rfl) ?q17 (Or.inl ⟨?w17, ?y17⟩) (by assumption) ?r17
            case h17 => (simp only [List.getElem?_toArray, List.getElem?_cons_succ, List.getElem?_cons_zero] <;> rfl)
            case q17 => exact fun _ _ _ h => h
            case w17 => rfl
            case y17 => (intro w hSw; (try dsimp only at hSw); go_simp; (try with_reducible rfl))
            try simp only [Act.put, List.setIfInBounds_toArray, List.set_cons_zero, List.set_cons_succ]
            refine wpAnyH_take (i := 18) (oi := ?o18) (v := ?v18) ?h18 (by kernel_rfl) (by kernel_rfl) (by kernel_rfl) ?q18 (Or.inl ⟨?w18, ?y18⟩) (by assumption) ?r18
            case h18 => (simp only [List.getElem?_toArray, List.getElem?_cons_succ, List.getElem?_cons_zero] <;> rfl)
            case q18 => exact fun _ _ _ h => h
            case w18 => rfl
            case y18 => (intro w hSw; (try dsimp only at hSw); go_simp; (try with_reducible rfl))
            try simp only [Act.put, List.setIfInBounds_toArray, List.set_cons_zero, List.set_cons_succ]
            refine wpAnyH_take (i := 19) (oi := ?o19) (v := ?v19) ?h19 (by kernel_rfl) (by kernel_rfl) (by kernel_rfl) ?q19 (Or.inl ⟨?w19, ?y19⟩) (by assumption) ?r19
            case h19 => (simp only [List.getElem?_toArray, List.getElem?_cons_succ, List.getElem?_cons_zero] <;> rfl)
            case q19 => exact fun _ _ _ h => h
            case w19 => rfl
            case y19 => (intro w hSw; (try dsimp only at hSw); go_simp; (try with_reducible rfl))
            try simp only [Act.put, List.setIfInBounds_toArray, List.set_cons_zero, List.set_cons_succ]
            refine wpAnyH_take (i := 20) (oi := ?o20) (v := ?v20) ?h20 (by kernel_rfl) (by kernel_rfl) (by kernel_rfl) ?q20 (Or.inl ⟨?w20, ?y20⟩) (by assumption) ?r20
            case h20 => (simp only [List.getElem?_toArray, List.getElem?_cons_succ, List.getElem?_cons_zero] <;> rfl)
            case q20 => exact fun _ _ _ h => h
            case w20 => rfl
            case y20 => (intro w hSw; (try dsimp only at hSw); go_simp; (try with_reducible rfl))
            try simp only [Act.put, List.setIfInBounds_toArray, List.set_cons_zero, List.set_cons_succ]
            refine wpAnyH_done (by kernel_rfl) ?_ _
            clear hHeld hb9 D9 D92
            go_wp2_with (go_at_call 11; refine (works_calls _).mono ?_; rintro e w' ⟨rfl, rfl⟩)
            go_ret
            exact ⟨rfl, HB9.out⟩
          · have hn1 : decide (n ≤ (d.length : Int)) = false := by simpa using hnd
            go_wp2_with (go_at_call 11; refine (works_calls _).mono ?_; rintro e w' ⟨rfl, rfl⟩)
            go_ret
            exact ⟨rfl, HB7.out.alloc hs7 _⟩
        · have hn1 : decide (0 < n) = false := by simpa using hn0
          go_wp2_with (go_at_call 11; refine (works_calls _).mono ?_; rintro e w' ⟨rfl, rfl⟩)
          go_ret
          exact ⟨rfl, HB7.out.alloc hs7 _⟩
end Go.Proofs.Ytbogknjgjbhagaa
