/- The attributes of bytes, as far as they can be read. -/
import Derived.Test.YtbogknjgjbhagaaPar5
import Derived.Test.YtbogknjgjbhagaaNum
namespace Go.Proofs.Ytbogknjgjbhagaa
open Go.RowKit
set_option linter.unusedSimpArgs false

def attrH (p : Int × Value) : List Value := [.int .u16 p.1, p.2]
theorem attrH_length (p : Int × Value) : (attrH p).length = 2 := rfl

theorem listB_split (l : List (Int × List Int)) (k : Nat) (h : k < l.length) : listB l = listB (l.take k) ++ (attrB (leaf l[k]) ++ listB (l.drop (k + 1))) := by
  rw [← listB_drop l k h, ← List.take_append_drop k l]
  simp only [listB, List.map_append, attrsB_append]
  rw [List.take_append_drop]

set_option maxHeartbeats 2000000 in
set_option maxRecDepth 100000 in
theorem parseAttributes_calls (A : Option Addr) (n c : Nat) (l : List (Int × List Int)) (w : World) (hr : Rd w A (bytesC (listB l))) (hn : n = (listB l).length) (hc : n ≤ c) (hok : ∀ x ∈ l, AttrOk x) (hb : ∀ x ∈ l, AllB x.2) (h20 : l.length ≤ 20) (hbig : n ≤ 1000000) :
    Calls Try.prog 56 #[.slice A n c] w fun e w' => ∃ v, e = .returned v ∧ (∃ hs, w'.ownsRow w.heap.size 80 2 v l.length (fl attrH hs) ∧ Match w' hs l) ∧ Below w.heap.size w w' := by
  obtain ⟨i0, hi, hz0, hz1, hz2⟩ := info_parts Try.info80
  have HR := Lib.hid hr
  have HN := Lib.hid hn
  have HOK := Lib.hid hok
  have HAB := Lib.hid hb
  clear hr hn hok hb
  go_enter Try.func56, Try.ntmps56
  go_wp2_with fail
  refine (native_calls _).mono ?_
  rintro e w1 ⟨rfl, hb1⟩
  have hsz1 := hb1.size
  have HB1 := Lib.hid hb1
  clear hb1
  go_wp2_with fail
  go_loopw [4, 5] (fun s i wr => ∃ k off : Nat, k ≤ l.length ∧ i = .int .i64 off ∧ off = (listB (l.take k)).length ∧ off ≤ n ∧ (∃ hs, wr.ownsRow w.heap.size 80 2 s k (fl attrH hs) ∧ Match w hs (l.take k)) ∧ Below w.heap.size w wr) (fun _ i _ => n + 4 - (intOf i).toNat)
  case atStart => exact ⟨0, 0, Nat.zero_le _, rfl, rfl, Nat.zero_le _, ⟨[], World.ownsRow_nil _ _ _ _, by simp [Match]⟩, HB1.out.alloc hsz1 _⟩
  case round =>
    obtain ⟨k, off, hk, rfl, hoff, hoffn, ⟨hs, hown, hm⟩, hb⟩ := hrel
    have hbs := hb.size
    have HB := Lib.hid hb
    have HO := Lib.hid hown
    have HM := Lib.hid hm
    clear hb hown hm
    by_cases hlt : k < l.length
    · have hmem : l[k] ∈ l := List.getElem_mem hlt
      have hxo := HOK.out _ hmem
      have hxb := HAB.out _ hmem
      have hsplit := listB_split l k hlt
      have hsucc := listB_take_succ l k hlt
      have htk := List.take_succ_eq_append_getElem hlt
      obtain ⟨x, hx⟩ : ∃ x, x = l[k] := ⟨_, rfl⟩
      rw [← hx] at hxo hxb hsplit hsucc htk
      obtain ⟨t, d⟩ := x
      simp only [AttrOk] at hxo
      simp only at hxb
      obtain ⟨rest, hrest⟩ : ∃ rest, rest = listB (l.drop (k + 1)) := ⟨_, rfl⟩
      rw [← hrest] at hsplit
      have hal := leaf_len (t, d)
      simp only at hal
      obtain ⟨q, hq⟩ : ∃ q, q = (attrB (leaf (t, d))).length := ⟨_, rfl⟩
      have hnl : n = off + (q + rest.length) := by rw [HN.out, hsplit, List.length_append, List.length_append, ← hoff, ← hq]
      have hoq : off + q = (listB (l.take (k + 1))).length := by rw [hsucc, List.length_append, ← hoff, ← hq]
      obtain ⟨b, o, rfl, hcellw⟩ := HR.out (bytesC_ne (by rw [← HN.out]; omega))
      rw [hsplit, leaf_eq] at hcellw
      have hlx : leV (lowB ((d.length : Int) + 4) 2) = (d.length : Int) + 4 := lowB2 _ (by omega)
      have hly : leV (lowB t 2) = t := lowB2 _ (by omega)
      have c1 : ∀ j, j < 2 → w.cell? ⟨b, o + (off + j), none⟩ = some (.int .u8 ((lowB ((d.length : Int) + 4) 2).getD j 0)) := take_cells hcellw off 2 _ (fun j hj => by
        rw [List.getElem?_append_right (by omega), ← hoff, Nat.add_sub_cancel_left, List.append_assoc, List.getElem?_append_left (by simpa using hj), List.getD_eq_getElem?_getD, List.getElem?_eq_getElem (by simpa using hj)]; rfl)
      have c2 : ∀ j, j < 2 → w.cell? ⟨b, o + (off + 2 + j), none⟩ = some (.int .u8 ((lowB t 2).getD j 0)) := take_cells hcellw (off + 2) 2 _ (fun j hj => by
        rw [List.getElem?_append_right (by omega), ← hoff, show off + 2 + j - off = 2 + j from by omega, List.append_assoc, List.getElem?_append_right (by simp), lowB_length, Nat.add_sub_cancel_left, List.append_assoc, List.getElem?_append_left (by simpa using hj), List.getD_eq_getElem?_getD, List.getElem?_eq_getElem (by simpa using hj)]; rfl)
      have hval : BytesAt w (.slice (from4 b o c (off + 4)) d.length (c - (off + 4))) d := by
        refine ⟨_, c - (off + 4), rfl, by omega, ?_, fun e => absurd e (from4_some _ _ _ _)⟩
        have h := from4_rd (n := n) (c := c) (k := off + 4) hcellw (by rw [bytesC_length, ← leaf_eq, ← hsplit]; exact HN.out.symm) hc
        rw [drop_head (X := listB (l.take k) ++ (lowB ((d.length : Int) + 4) 2 ++ lowB t 2)) (Y := d ++ (List.replicate (padN (4 + d.length)) 0 ++ rest)) (by simp) (by simp; omega), bytesC, List.map_append] at h
        exact h.pre
      have wL : IntKind.i64.wrap ((d.length : Int) + 4) = (d.length : Int) + 4 := IntWalk.i64_in _ (by omega)
      have wo : IntKind.i64.wrap ((off : Int) + 2) = (off : Int) + 2 := IntWalk.i64_in _ (by omega)
      have wo4 : IntKind.i64.wrap ((off : Int) + 4) = (off : Int) + 4 := IntWalk.i64_in _ (by omega)
      have z1 : (0 : Int) ≤ (off : Int) + 2 := by omega
      have z2 : (off : Int) + 2 ≤ (c : Int) := by omega
      have z3 : ((off : Int) + 2).toNat = off + 2 := by omega
      have z4 : (0 : Int) ≤ (off : Int) + 4 := by omega
      have z5 : (off : Int) + 4 ≤ (c : Int) := by omega
      have z6 : ((off : Int) + 4).toNat = off + 4 := by omega
      have z7 : off + 4 - (off + 2) = 2 := by omega
      have hoc : off + 4 + d.length ≤ n := by omega
      have hoc2 : off + 4 ≤ n := by omega
      have hoc3 : ¬ c = off := by omega
      have hoc4 : ¬ c = off + 2 := by omega
      have HC1 := Lib.hid c1
      have HC2 := Lib.hid c2
      have HVAL := Lib.hid hval
      have HOQ := Lib.hid hoq
      have HNL := Lib.hid hnl
      have HOFF := Lib.hid hoff
      have HTK := Lib.hid htk
      have HAL := Lib.hid hal
      have HQ := Lib.hid hq
      clear c1 c2 hval hoq hnl hoff htk hsplit hsucc hx hmem hcellw hrest hal hq
      go_wp2_with fail
      refine wp_region_held_drew (S := fun _ => True) (by kernel_rfl) trivial (fun hHeld => ?_)
      refine wpAnyH_take (i := 0) (oi := ?o0) (v := ?v0) ?h0 (by kernel_rfl) (by kernel_rfl) (by kernel_rfl) ?q0 (Or.inl ⟨?w0, ?y0⟩) (by assumption) ?r0
      case h0 => (simp only [List.getElem?_toArray, List.getElem?_cons_succ, List.getElem?_cons_zero] <;> rfl)
      case q0 => exact fun _ _ _ h => h
      case w0 => rfl
      case y0 => (intro w hSw; (try dsimp only at hSw); go_simp; (try with_reducible rfl))
      try simp only [Act.put, List.setIfInBounds_toArray, List.set_cons_zero, List.set_cons_succ]
      refine wpAnyH_take (i := 1) (oi := ?o1) (v := ?v1) ?h1 (by kernel_rfl) (by kernel_rfl) (by kernel_rfl) ?q1 (Or.inl ⟨?w1, ?y1⟩) (by assumption) ?r1
      case h1 => (simp only [List.getElem?_toArray, List.getElem?_cons_succ, List.getElem?_cons_zero] <;> rfl)
      case q1 => exact fun _ _ _ h => h
      case w1 => rfl
      case y1 => (intro w hSw; (try dsimp only at hSw); go_simp; (try with_reducible rfl))
      try simp only [Act.put, List.setIfInBounds_toArray, List.set_cons_zero, List.set_cons_succ]
      refine wpAnyH_take (i := 2) (oi := ?o2) (v := ?v2) ?h2 (by kernel_rfl) (by kernel_rfl) (by kernel_rfl) ?q2 (Or.inl ⟨?w2, ?y2⟩) (by assumption) ?r2
      case h2 => (simp only [List.getElem?_toArray, List.getElem?_cons_succ, List.getElem?_cons_zero] <;> rfl)
      case q2 => exact fun _ _ _ h => h
      case w2 => rfl
      case y2 => (intro w hSw; (try dsimp only at hSw); go_simp; (try with_reducible rfl))
      try simp only [Act.put, List.setIfInBounds_toArray, List.set_cons_zero, List.set_cons_succ]
      refine wpAnyH_take (i := 3) (oi := ?o3) (v := ?v3) ?h3 (by kernel_rfl) (by kernel_rfl) (by kernel_rfl) ?q3 (Or.inl ⟨?w3, ?y3⟩) (by assumption) ?r3
      case h3 => (simp only [List.getElem?_toArray, List.getElem?_cons_succ, List.getElem?_cons_zero] <;> rfl)
      case q3 => exact fun _ _ _ h => h
      case w3 => rfl
      case y3 => (intro w hSw; (try dsimp only at hSw); go_simp; (try with_reducible rfl))
      try simp only [Act.put, List.setIfInBounds_toArray, List.set_cons_zero, List.set_cons_succ]
      refine wpAnyH_take (i := 4) (oi := ?o4) (v := ?v4) ?h4 (by kernel_rfl) (by kernel_rfl) (by kernel_rfl) ?q4 (Or.inl ⟨?w4, ?y4⟩) (by assumption) ?r4
      case h4 => (simp only [List.getElem?_toArray, List.getElem?_cons_succ, List.getElem?_cons_zero] <;> rfl)
      case q4 => exact fun _ _ _ h => h
      case w4 => rfl
      case y4 => (intro w hSw; (try dsimp only at hSw); go_simp; (try with_reducible rfl))
      try simp only [Act.put, List.setIfInBounds_toArray, List.set_cons_zero, List.set_cons_succ]
      refine wpAnyH_take (i := 5) (oi := ?o5) (v := ?v5) ?h5 (by kernel_rfl) (by kernel_rfl) (by kernel_rfl) ?q5 (Or.inl ⟨?w5, ?y5⟩) (by assumption) ?r5
      case h5 => (simp only [List.getElem?_toArray, List.getElem?_cons_succ, List.getElem?_cons_zero] <;> rfl)
      case q5 => exact fun _ _ _ h => h
      case w5 => rfl
      case y5 => (intro w hSw; (try dsimp only at hSw); go_simp; (try with_reducible rfl))
      try simp only [Act.put, List.setIfInBounds_toArray, List.set_cons_zero, List.set_cons_succ]
      refine wpAnyH_ready (rs := [6]) (by kernel_rfl) (by simp) ?_
      refine AllReadyH.cons (o := ?o6) ?h6 (fun K hK => ?_) AllReadyH.nil
      case h6 => (simp only [List.getElem?_toArray, List.getElem?_cons_succ, List.getElem?_cons_zero] <;> rfl)
      go_simp
      refine (leUint16_calls b (o + off) 2 (c - off) _ _ (lowB_all _ _) (lowB_length _ _) (by decide) (by decide) (fun j hj => by rw [Nat.add_assoc]; exact cells_one HB.out.drew (HC1.out j hj))).mono ?_
      rintro e w2 ⟨rfl, hb2⟩
      rw [hlx]
      have HB2 := Lib.hid (HB.out.trans ((below_trans (Below.refl _ _).drew hb2).mono hbs))
      have hsz2 := HB2.out.size
      have D2 := below_trans (w := wr) (Below.refl _ _).drew hb2
      have HO2 := Lib.hid (own_below HO.out D2)
      have hszr := D2.size
      clear hb2 D2
      refine hK.out _ _ ?s6 (fun hHeld => ?_)
      case s6 => trivial
      clear hK K
      try simp only [Act.put, List.setIfInBounds_toArray, List.set_cons_zero, List.set_cons_succ]
      refine wpAnyH_take (i := 7) (oi := ?o7) (v := ?v7) ?h7 (by kernel_rfl) (by kernel_rfl) (by kernel_rfl) ?q7 (Or.inl ⟨?w7, ?y7⟩) (by assumption) ?r7
      case h7 => (simp only [List.getElem?_toArray, List.getElem?_cons_succ, List.getElem?_cons_zero] <;> rfl)
      case q7 => exact fun _ _ _ h => h
      case w7 => rfl
      case y7 => (intro w hSw; (try dsimp only at hSw); go_simp; (try with_reducible rfl))
      try simp only [Act.put, List.setIfInBounds_toArray, List.set_cons_zero, List.set_cons_succ]
      refine wpAnyH_take (i := 8) (oi := ?o8) (v := ?v8) ?h8 (by kernel_rfl) (by kernel_rfl) (by kernel_rfl) ?q8 (Or.inl ⟨?w8, ?y8⟩) (by assumption) ?r8
      case h8 => (simp only [List.getElem?_toArray, List.getElem?_cons_succ, List.getElem?_cons_zero] <;> rfl)
      case q8 => exact fun _ _ _ h => h
      case w8 => rfl
      case y8 => (intro w hSw; (try dsimp only at hSw); go_simp; (try with_reducible rfl))
      try simp only [Act.put, List.setIfInBounds_toArray, List.set_cons_zero, List.set_cons_succ]
      refine wpAnyH_done (by kernel_rfl) ?_ _
      clear hHeld
      go_wp2_with fail
      refine wp_region_held_drew (S := fun _ => True) (by kernel_rfl) trivial (fun hHeld => ?_)
      refine wpAnyH_take (i := 0) (oi := ?o0B) (v := ?v0B) ?h0B (by kernel_rfl) (by kernel_rfl) (by kernel_rfl) ?q0B (Or.inl ⟨?w0B, ?y0B⟩) (by assumption) ?r0B
      case h0B => (simp only [List.getElem?_toArray, List.getElem?_cons_succ, List.getElem?_cons_zero] <;> rfl)
      case q0B => exact fun _ _ _ h => h
      case w0B => rfl
      case y0B => (intro w hSw; (try dsimp only at hSw); go_simp; (try with_reducible rfl))
      try simp only [Act.put, List.setIfInBounds_toArray, List.set_cons_zero, List.set_cons_succ]
      refine wpAnyH_take (i := 1) (oi := ?o1B) (v := ?v1B) ?h1B (by kernel_rfl) (by kernel_rfl) (by kernel_rfl) ?q1B (Or.inl ⟨?w1B, ?y1B⟩) (by assumption) ?r1B
      case h1B => (simp only [List.getElem?_toArray, List.getElem?_cons_succ, List.getElem?_cons_zero] <;> rfl)
      case q1B => exact fun _ _ _ h => h
      case w1B => rfl
      case y1B => (intro w hSw; (try dsimp only at hSw); go_simp; (try with_reducible rfl))
      try simp only [Act.put, List.setIfInBounds_toArray, List.set_cons_zero, List.set_cons_succ]
      refine wpAnyH_take (i := 2) (oi := ?o2B) (v := ?v2B) ?h2B (by kernel_rfl) (by kernel_rfl) (by kernel_rfl) ?q2B (Or.inl ⟨?w2B, ?y2B⟩) (by assumption) ?r2B
      case h2B => (simp only [List.getElem?_toArray, List.getElem?_cons_succ, List.getElem?_cons_zero] <;> rfl)
      case q2B => exact fun _ _ _ h => h
      case w2B => rfl
      case y2B => (intro w hSw; (try dsimp only at hSw); go_simp; (try with_reducible rfl))
      try simp only [Act.put, List.setIfInBounds_toArray, List.set_cons_zero, List.set_cons_succ]
      refine wpAnyH_take (i := 3) (oi := ?o3B) (v := ?v3B) ?h3B (by kernel_rfl) (by kernel_rfl) (by kernel_rfl) ?q3B (Or.inl ⟨?w3B, ?y3B⟩) (by assumption) ?r3B
      case h3B => (simp only [List.getElem?_toArray, List.getElem?_cons_succ, List.getElem?_cons_zero] <;> rfl)
      case q3B => exact fun _ _ _ h => h
      case w3B => rfl
      case y3B => (intro w hSw; (try dsimp only at hSw); go_simp; (try with_reducible rfl))
      try simp only [Act.put, List.setIfInBounds_toArray, List.set_cons_zero, List.set_cons_succ]
      refine wpAnyH_take (i := 4) (oi := ?o4B) (v := ?v4B) ?h4B (by kernel_rfl) (by kernel_rfl) (by kernel_rfl) ?q4B (Or.inl ⟨?w4B, ?y4B⟩) (by assumption) ?r4B
      case h4B => (simp only [List.getElem?_toArray, List.getElem?_cons_succ, List.getElem?_cons_zero] <;> rfl)
      case q4B => exact fun _ _ _ h => h
      case w4B => rfl
      case y4B => (intro w hSw; (try dsimp only at hSw); go_simp; (try with_reducible rfl))
      try simp only [Act.put, List.setIfInBounds_toArray, List.set_cons_zero, List.set_cons_succ]
      refine wpAnyH_take (i := 5) (oi := ?o5B) (v := ?v5B) ?h5B (by kernel_rfl) (by kernel_rfl) (by kernel_rfl) ?q5B (Or.inl ⟨?w5B, ?y5B⟩) (by assumption) ?r5B
      case h5B => (simp only [List.getElem?_toArray, List.getElem?_cons_succ, List.getElem?_cons_zero] <;> rfl)
      case q5B => exact fun _ _ _ h => h
      case w5B => rfl
      case y5B => (intro w hSw; (try dsimp only at hSw); go_simp; (try with_reducible rfl))
      try simp only [Act.put, List.setIfInBounds_toArray, List.set_cons_zero, List.set_cons_succ]
      refine wpAnyH_take (i := 6) (oi := ?o6B) (v := ?v6B) ?h6B (by kernel_rfl) (by kernel_rfl) (by kernel_rfl) ?q6B (Or.inl ⟨?w6B, ?y6B⟩) (by assumption) ?r6B
      case h6B => (simp only [List.getElem?_toArray, List.getElem?_cons_succ, List.getElem?_cons_zero] <;> rfl)
      case q6B => exact fun _ _ _ h => h
      case w6B => rfl
      case y6B => (intro w hSw; (try dsimp only at hSw); go_simp; (try with_reducible rfl))
      try simp only [Act.put, List.setIfInBounds_toArray, List.set_cons_zero, List.set_cons_succ]
      refine wpAnyH_ready (rs := [7]) (by kernel_rfl) (by simp) ?_
      refine AllReadyH.cons (o := ?o7B) ?h7B (fun K hK => ?_) AllReadyH.nil
      case h7B => (simp only [List.getElem?_toArray, List.getElem?_cons_succ, List.getElem?_cons_zero] <;> rfl)
      go_simp
      refine (leUint16_calls b (o + (off + 2)) 2 (c - (off + 2)) _ _ (lowB_all _ _) (lowB_length _ _) (by decide) (by decide) (fun j hj => by rw [Nat.add_assoc]; exact cells_one HB2.out.drew (HC2.out j hj))).mono ?_
      rintro e w3 ⟨rfl, hb3⟩
      rw [hly]
      have D3 := below_trans (w := w2) (Below.refl _ _).drew hb3
      have HB3 := Lib.hid (HB2.out.trans (D3.mono hsz2))
      have hsz3 := HB3.out.size
      have HO3 := Lib.hid (own_below HO2.out D3)
      clear hb3 D3
      refine hK.out _ _ ?s7B (fun hHeld => ?_)
      case s7B => trivial
      clear hK K
      try simp only [Act.put, List.setIfInBounds_toArray, List.set_cons_zero, List.set_cons_succ]
      refine wpAnyH_take (i := 8) (oi := ?o8B) (v := ?v8B) ?h8B (by kernel_rfl) (by kernel_rfl) (by kernel_rfl) ?q8B (Or.inl ⟨?w8B, ?y8B⟩) (by assumption) ?r8B
      case h8B => (simp only [List.getElem?_toArray, List.getElem?_cons_succ, List.getElem?_cons_zero] <;> rfl)
      case q8B => exact fun _ _ _ h => h
      case w8B => rfl
      case y8B => (intro w hSw; (try dsimp only at hSw); go_simp; (try with_reducible rfl))
      try simp only [Act.put, List.setIfInBounds_toArray, List.set_cons_zero, List.set_cons_succ]
      refine wpAnyH_done (by kernel_rfl) ?_ _
      clear hHeld
      have z8 : off + (d.length + 4) - (off + 4) = d.length := by omega
      by_cases hcc : c = off + 4
      · subst hcc
        have HV9 : Hid (BytesAt w (.slice (some ⟨b, o, none⟩) d.length 0) d) := (by
          have h := HVAL.out
          rw [from4, if_pos rfl, Nat.sub_self] at h
          exact h)
        have hone : (.slice (some ⟨b, o, none⟩) d.length 0 : Value).oneCell' = true := rfl
        go_wp2_with (first
          | (go_at_call 89; refine (align_calls _ _ (by omega)).mono ?_; rintro e w' ⟨rfl, rfl⟩)
          | (at_builtin; go_must (refine wpList_append_own _ rfl _ _ 94 rfl w.heap.size 80 i0 (.agg #[.int .u16 0, .slice none 0 0]) 2 32 Try.underlying94 hi hz0 hz1 hz2 rfl (by decide) _ _ _ rfl (by exact HO3.out.alloc _) ⟨w3.heap.size, 0, none⟩ 1 1 [.int .u16 t, .slice (some ⟨b, o, none⟩) d.length 0] rfl rfl (by exact cell_two_new w3 _ _ _) (by intro u hu; simp at hu; rcases hu with rfl | rfl <;> rfl) (by unfold maxLen; omega) (by omega) (by simp; omega) ?_)))
        intro v' w4 hown' hgrow _
        have B4 : Below w.heap.size w w4 := (HB3.out.alloc hsz3 (.cells #[.int .u16 t, .slice (some ⟨b, o, none⟩) d.length 0] 80)).grown hgrow (by simp; omega) (fun q hq => (HO3.out.lt q hq).1)
        have R : w4.ownsRow w.heap.size 80 2 v' (k + 1) (fl attrH (hs ++ [(t, .slice (some ⟨b, o, none⟩) d.length 0)])) := by rw [fl_snoc]; exact hown'
        have hm1 : Match w (hs ++ [(t, .slice (some ⟨b, o, none⟩) d.length 0)]) (l.take (k + 1)) := by
          rw [HTK.out]; exact HM.out.snoc rfl HV9.out
        have HR4 := Lib.hid R
        have HB4 := Lib.hid B4
        have HM4 := Lib.hid hm1
        clear hown' hgrow R B4 hm1
        go_wp2_with (go_at_call 89; refine (align_calls _ _ (by omega)).mono ?_; rintro e w' ⟨rfl, rfl⟩)
        go_roundw
        case rel =>
          have e1 := HAL.out
          have e2 := HQ.out
          have e3 := HNL.out
          exact ⟨k + 1, off + q, by omega, by rw [show (off : Int) + ((d.length : Int) + 4 + 3) / 4 * 4 = ((off + q : Nat) : Int) from by omega], HOQ.out, by omega, ⟨_, HR4.out, HM4.out⟩, HB4.out⟩
        case measure =>
          have e1 := HAL.out
          have e2 := HQ.out
          have e3 := HNL.out
          simp [intOf]; omega
      · have HV9 : Hid (BytesAt w (.slice (some ⟨b, o + (off + 4), none⟩) d.length (c - (off + 4))) d) := (by
          have h := HVAL.out
          rw [from4, if_neg hcc] at h
          exact h)
        have hone : (.slice (some ⟨b, o + (off + 4), none⟩) d.length (c - (off + 4)) : Value).oneCell' = true := rfl
        go_wp2_with (first
          | (go_at_call 89; refine (align_calls _ _ (by omega)).mono ?_; rintro e w' ⟨rfl, rfl⟩)
          | (at_builtin; go_must (refine wpList_append_own _ rfl _ _ 94 rfl w.heap.size 80 i0 (.agg #[.int .u16 0, .slice none 0 0]) 2 32 Try.underlying94 hi hz0 hz1 hz2 rfl (by decide) _ _ _ rfl (by exact HO3.out.alloc _) ⟨w3.heap.size, 0, none⟩ 1 1 [.int .u16 t, .slice (some ⟨b, o + (off + 4), none⟩) d.length (c - (off + 4))] rfl rfl (by exact cell_two_new w3 _ _ _) (by intro u hu; simp at hu; rcases hu with rfl | rfl <;> rfl) (by unfold maxLen; omega) (by omega) (by simp; omega) ?_)))
        intro v' w4 hown' hgrow _
        have B4 : Below w.heap.size w w4 := (HB3.out.alloc hsz3 (.cells #[.int .u16 t, .slice (some ⟨b, o + (off + 4), none⟩) d.length (c - (off + 4))] 80)).grown hgrow (by simp; omega) (fun q hq => (HO3.out.lt q hq).1)
        have R : w4.ownsRow w.heap.size 80 2 v' (k + 1) (fl attrH (hs ++ [(t, .slice (some ⟨b, o + (off + 4), none⟩) d.length (c - (off + 4)))])) := by rw [fl_snoc]; exact hown'
        have hm1 : Match w (hs ++ [(t, .slice (some ⟨b, o + (off + 4), none⟩) d.length (c - (off + 4)))]) (l.take (k + 1)) := by
          rw [HTK.out]; exact HM.out.snoc rfl HV9.out
        have HR4 := Lib.hid R
        have HB4 := Lib.hid B4
        have HM4 := Lib.hid hm1
        clear hown' hgrow R B4 hm1
        go_wp2_with (go_at_call 89; refine (align_calls _ _ (by omega)).mono ?_; rintro e w' ⟨rfl, rfl⟩)
        go_roundw
        case rel =>
          have e1 := HAL.out
          have e2 := HQ.out
          have e3 := HNL.out
          exact ⟨k + 1, off + q, by omega, by rw [show (off : Int) + ((d.length : Int) + 4 + 3) / 4 * 4 = ((off + q : Nat) : Int) from by omega], HOQ.out, by omega, ⟨_, HR4.out, HM4.out⟩, HB4.out⟩
        case measure =>
          have e1 := HAL.out
          have e2 := HQ.out
          have e3 := HNL.out
          simp [intOf]; omega
    · have hkl : k = l.length := by omega
      subst hkl
      have hfin : ¬ (off : Int) + 4 ≤ (n : Int) := by
        rw [List.take_length, ← HN.out] at hoff; omega
      have hm1 : Match w hs l := by have h := HM.out; rwa [List.take_length] at h
      have HM3 := Lib.hid hm1
      obtain ⟨A3, c3, rfl, -, -, -⟩ := Rd.of_own HO.out
      clear hm1 hoff
      go_wp2_with fail
      go_ret
      exact ⟨_, rfl, ⟨hs, HO.out, HM3.out.below HB.out⟩, HB.out⟩
end Go.Proofs.Ytbogknjgjbhagaa
