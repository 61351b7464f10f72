/- The statement on structures: it answers true, whatever comes in. -/
import Derived.Test.YtbogknjgjbhagaaStrV
namespace Go.Proofs.Ytbogknjgjbhagaa
open Go.RowKit
set_option linter.unusedSimpArgs false

set_option maxHeartbeats 4000000 in
set_option maxRecDepth 100000 in
theorem fnStructure_out (K : Int) (A : Option Addr) (c : Nat) (l : List Int) (w : World) (hK : K < 0 ∨ 8 < K) (hr : Rd w A (u64C l)) (hA : A = none → l = []) (hl64 : ∀ x ∈ l, 0 ≤ x ∧ x < 18446744073709551616) (hll : l.length ≤ 9223372036854775807) :
    Calls Try.prog 9 #[.int .i64 K, .slice A l.length c] w fun e w' => e = .returned (.bool true) ∧ Below w.heap.size w w' := by
  by_cases h1 : 2147483647 < l.length
  · go_enter Try.func9, Try.ntmps9
    go_wp2_with fail
    go_ret
    exact ⟨rfl, Below.refl _ _⟩
  · have sc := structure_calls K ⟨#[]⟩ [] A c l w (shp_none K hK) (fun h => by omega) hr hA (by omega) hl64
    have SC := Lib.hid sc
    clear sc hr hA hl64
    go_enter Try.func9, Try.ntmps9
    go_wp2_with fail
    refine SC.out.mono ?_
    rintro e w1 ⟨v1, r, rfl, hpost, hb1⟩
    have HB1 := Lib.hid hb1
    clear hb1
    cases r with
    | false =>
      clear hpost
      go_wp2_with (go_at_call 11; refine (works_calls _).mono ?_; rintro e w' ⟨rfl, rfl⟩)
      go_ret
      exact ⟨rfl, HB1.out⟩
    | true =>
      exfalso
      obtain ⟨h2, h3, -⟩ := hpost rfl
      rw [h3] at h2
      simp [cnt] at h2

set_option maxHeartbeats 4000000 in
set_option maxRecDepth 100000 in
theorem fnStructure_gen (K : Int) (s : ByteArray) (cs : List Nat) (bl : List Int) (kd : Kd K s cs bl) (A : Option Addr) (c : Nat) (l : List Int) (w : World) (hr : Rd w A (u64C l)) (hA : A = none → l = []) (hl64 : ∀ x ∈ l, 0 ≤ x ∧ x < 18446744073709551616) (hll : l.length ≤ 9223372036854775807) :
    Calls Try.prog 9 #[.int .i64 K, .slice A l.length c] w fun e w' => e = .returned (.bool true) ∧ Below w.heap.size w w' := by
  by_cases h1 : 2147483647 < l.length
  · go_enter Try.func9, Try.ntmps9
    go_wp2_with fail
    go_ret
    exact ⟨rfl, Below.refl _ _⟩
  have sc := structure_calls K s cs A c l w kd.shp kd.zero hr hA (by omega) hl64
  have SC := Lib.hid sc
  have KD := Lib.hid kd
  have HR := Lib.hid hr
  clear sc hr hl64 kd hA
  go_enter Try.func9, Try.ntmps9
  go_wp2_with fail
  refine SC.out.mono ?_
  rintro e w1 ⟨v1, r, rfl, hpost, hb1⟩
  have HB1 := Lib.hid hb1
  clear hb1
  cases r with
  | false =>
    clear hpost
    go_wp2_with (go_at_call 11; refine (works_calls _).mono ?_; rintro e w' ⟨rfl, rfl⟩)
    go_ret
    exact ⟨rfl, HB1.out⟩
  | true =>
    obtain ⟨hl0, hln, hK2, hok, hown⟩ := hpost rfl
    have hfit : FitL K cs l := ⟨hln, hok, hK2⟩
    obtain ⟨b, o, rfl, hcell⟩ := HR.out (fun e => by have h := congrArg List.length e; rw [u64C, List.length_map, List.length_nil] at h; omega)
    have hcell1 : ∀ j u, (u64C l)[j]? = some u → w1.cell? ⟨b, o + j, none⟩ = some u := fun j u hj => cells_one HB1.out (hcell j u hj)
    have hem : (emitAt cs l 0).length ≤ 36 := by
      have h1 := emitAt_le cs l (fun c hc => by have := KD.out.shp.each c hc; omega) 0
      have h2 := KD.out.shp.few
      omega
    have hbl9 : bl.length ≤ 9 := by have := KD.out.len; have := cnt_le cs; have := KD.out.shp.few; omega
    have fc := format_calls K bl KD.out.bits b o c l (emitAt cs l 0) w1 (by rw [hln, KD.out.len]) hbl9 hcell1 (KD.out.ok l hfit) (KD.out.forms l b o c w1 hfit hcell1) (by omega)
    have hba1 := (own_bytesF hown).at_
    have hpos : 0 < (emitAt cs l 0).length := by
      have h9 := KD.out.pos
      have : ∀ (cs : List Nat) (i : Nat), (∀ c ∈ cs, c = 112 ∨ c = 49 ∨ c = 50 ∨ c = 52) → 0 < cnt cs → 0 < (emitAt cs l i).length := by
        intro cs
        induction cs with
        | nil => intro i _ h; simp [cnt] at h
        | cons x r ih =>
          intro i hx h
          by_cases h112 : x = 112
          · simp [emitAt, h112]
          · have := hx x (by simp)
            simp [emitAt, h112]; omega
      exact this cs 0 KD.out.shp.each h9
    obtain ⟨A1, c1, rfl, -, -, -⟩ := Rd.of_own hown
    have FC := Lib.hid fc
    have HBA1 := Lib.hid hba1
    have HCELL := Lib.hid hcell
    have HFIT := Lib.hid hfit
    have HKL := Lib.hid hln
    obtain ⟨B, hB⟩ : ∃ B, B = emitAt cs l 0 := ⟨_, rfl⟩
    rw [← hB] at FC HBA1 hpos hem
    rw [← hB]
    have HBB := Lib.hid hB
    obtain ⟨q, hq⟩ : ∃ q, q = B.length := ⟨_, rfl⟩
    have HQ := Lib.hid hq
    rw [← hq] at hpos hem
    rw [← hq]
    clear hpost hK2 hok hown hfit hcell hcell1 fc hba1 hln hB hq HR SC
    go_wp2_with fail
    refine FC.out.mono ?_
    rintro e w2 ⟨v2, rfl, hown2, hb2⟩
    have hba2 := (own_bytesF hown2).at_
    have hba12 := HBA1.out.below hb2
    obtain ⟨A2, c2, rfl, -, -, -⟩ := Rd.of_own hown2
    have hs1 := HB1.out.size
    have HB2 := Lib.hid (HB1.out.trans (hb2.mono hs1))
    obtain ⟨str, hstr⟩ : ∃ str, str = strOfNums B := ⟨_, rfl⟩
    have cv2 := conv_all _ _ _ hba2
    have cv1 := conv_all _ _ _ hba12
    rw [← hstr, ← HQ.out] at cv1 cv2
    rw [← HQ.out]
    have HBA12 := Lib.hid hba12
    clear hown2 hb2 hba2 hba12 hstr
    by_cases hK4 : K = 4
    · subst hK4
      go_wp2_with (go_at_call 11; refine (works_calls _).mono ?_; rintro e w' ⟨rfl, rfl⟩)
      go_ret
      exact ⟨rfl, HB2.out⟩
    · have hK4' : ((K : Int) == 4) = false := by rw [beq_eq_false_iff_ne]; exact hK4
      go_wp2_with fail
      clear cv1 cv2
      have rc := read_calls K A1 c1 B l w2 HBA12.out (by rw [HBB.out]; exact KD.out.nums hK4 l HFIT.out) (by rw [← HQ.out]; omega) (by rw [← HQ.out]; exact hpos)
      rw [← HQ.out] at rc
      refine rc.mono ?_
      rintro e w3 ⟨g, rfl, hg, hb3⟩
      have hs2 := HB2.out.size
      have HB3 := Lib.hid (HB2.out.trans (hb3.mono hs2))
      have HG := Lib.hid hg
      clear hg hb3 rc
      go_wp2_with fail
      go_loopw [59] (fun i wr => ∃ k : Nat, k ≤ l.length ∧ i = .int .i64 (k : Nat) ∧ Hid (Below w3.heap.size w3 wr)) (fun i _ => l.length - (intOf i).toNat)
      case atStart => exact ⟨0, Nat.zero_le _, rfl, Below.refl _ _⟩
      case round =>
        obtain ⟨k, hk, rfl, HB⟩ := hrel
        have hs3 := HB3.out.size
        by_cases hlt : k < l.length
        · have f0 := cells_one (HB3.out.trans (HB.out.mono hs3)) (HCELL.out k (.int .u64 l[k]) (by rw [u64C, List.getElem?_map, List.getElem?_eq_getElem hlt]; rfl))
          have g0 : w3.cell? ⟨g, k, none⟩ = some (.int .u64 l[k]) := (cell_of_row _ _ k _ _ (0, 0) HG.out).trans (by simp [u64C, List.getElem?_eq_getElem hlt])
          have f1 := cells_one HB.out g0
          obtain ⟨x, hx⟩ : ∃ x, x = l[k] := ⟨_, rfl⟩
          rw [← hx] at f0 f1
          clear hx g0
          go_wp2_with fail
          go_quiet (fail)
          go_wp2_with fail
          go_roundw
          case rel => exact ⟨k + 1, by omega, by go_num, below_drewN HB.out nq⟩
          case measure => simp [intOf]; omega
        · have hkl : k = l.length := by omega
          subst hkl
          go_wp2_with (go_at_call 11; refine (works_calls _).mono ?_; rintro e w' ⟨rfl, rfl⟩)
          go_ret
          exact ⟨rfl, HB3.out.trans (HB.out.mono hs3)⟩

theorem fnStructure_calls (K : Int) (A : Option Addr) (c : Nat) (l : List Int) (w : World) (hr : Rd w A (u64C l)) (hA : A = none → l = []) (hl64 : ∀ x ∈ l, 0 ≤ x ∧ x < 18446744073709551616) (hll : l.length ≤ 9223372036854775807) :
    Calls Try.prog 9 #[.int .i64 K, .slice A l.length c] w fun e w' => e = .returned (.bool true) ∧ Below w.heap.size w w' := by
  rcases (show K < 0 ∨ 8 < K ∨ K = 0 ∨ K = 1 ∨ K = 2 ∨ K = 3 ∨ K = 4 ∨ K = 5 ∨ K = 6 ∨ K = 7 ∨ K = 8 by omega) with h | h | rfl | rfl | rfl | rfl | rfl | rfl | rfl | rfl | rfl
  · exact fnStructure_out K A c l w (.inl h) hr hA hl64 hll
  · exact fnStructure_out K A c l w (.inr h) hr hA hl64 hll
  · exact fnStructure_gen 0 _ _ _ kd0 A c l w hr hA hl64 hll
  · exact fnStructure_gen 1 _ _ _ kd1 A c l w hr hA hl64 hll
  · exact fnStructure_gen 2 _ _ _ kd2 A c l w hr hA hl64 hll
  · exact fnStructure_gen 3 _ _ _ kd3 A c l w hr hA hl64 hll
  · exact fnStructure_gen 4 _ _ _ kd4 A c l w hr hA hl64 hll
  · exact fnStructure_gen 5 _ _ _ kd5 A c l w hr hA hl64 hll
  · exact fnStructure_gen 6 _ _ _ kd6 A c l w hr hA hl64 hll
  · exact fnStructure_gen 7 _ _ _ kd7 A c l w hr hA hl64 hll
  · exact fnStructure_gen 8 _ _ _ kd8 A c l w hr hA hl64 hll
end Go.Proofs.Ytbogknjgjbhagaa
