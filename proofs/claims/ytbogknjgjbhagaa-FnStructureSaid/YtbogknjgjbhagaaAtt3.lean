/- Whether an attribute is one that is compared. -/
import Derived.Test.YtbogknjgjbhagaaAtt2
namespace Go.Proofs.Ytbogknjgjbhagaa
open Go.RowKit
set_option linter.unusedSimpArgs false

def NodePost (w : World) (T : Tree) (e : Ending) (w' : World) : Prop :=
  ∃ a b c x, e = .returned (.agg #[a, b, c]) ∧ XAt w w' (fun g => w.heap.size ≤ g ∧ g < w'.heap.size) a b c x ∧ (Good x → x = T) ∧ Small x ∧ Below w.heap.size w w'

set_option maxHeartbeats 2000000 in
set_option maxRecDepth 100000 in
theorem node_calls (T : Tree) (w : World) (a b c : Value) (hT : XAt w w (fun _ => True) a b c T) : Calls Try.prog 28 #[.agg #[a, b, c]] w fun e w' => NodePost w T e w' := by
  have HT := Lib.hid hT
  obtain ⟨t, d, ks⟩ := T
  obtain ⟨A, k1, A', k2, rfl, rfl, rfl, -⟩ := XAt.shape hT
  clear hT
  go_enter Try.func28, Try.ntmps28
  obtain ⟨W1, hW1⟩ : ∃ W1, W1 = ((w.alloc (.cells #[.int .i64 t, .slice A d.length k1, .slice A' ks.length k2] 56)).alloc (.cells #[.int .i64 0, .slice none 0 0, .slice none 0 0] 60)).alloc (.cells #[.int .i64 4000] 3) := ⟨_, rfl⟩
  have B1 : Below w.heap.size w W1 := by rw [hW1]; exact below3 w _ _ _
  have q60 : W1.heap[w.heap.size + 1]? = some (.cells #[.int .i64 0, .slice none 0 0, .slice none 0 0] 60 (0, 0)) := by
    rw [hW1]; exact alloc_at3' w _ _ _
  have q3 : Room W1 (w.heap.size + 2) 4000 := by
    have h := heap_alloc_new ((w.alloc (.cells #[.int .i64 t, .slice A d.length k1, .slice A' ks.length k2] 56)).alloc (.cells #[.int .i64 0, .slice none 0 0, .slice none 0 0] 60)) (.cells #[.int .i64 4000] 3)
    rw [show ((w.alloc (.cells #[.int .i64 t, .slice A d.length k1, .slice A' ks.length k2] 56)).alloc (.cells #[.int .i64 0, .slice none 0 0, .slice none 0 0] 60)).heap.size = w.heap.size + 2 from by simp] at h
    rw [hW1]; exact h
  have HW1 := Lib.hid hW1
  have hsz1 : W1.heap.size = w.heap.size + 3 := by rw [hW1]; simp
  clear hW1
  go_wp2_with fail
  rw [← HW1.out]
  have ac := among_calls w (.node t d ks) W1 _ _ _ 8 (w.heap.size + 2) 4000 HT.out B1 (by omega) q3 (by omega) (by omega) (by omega)
  refine ac.mono ?_
  rintro e w2 ⟨a2, b2, c2, x, r, rfl, hx, hgx, hsm, hr1, hr2, hrm, hg⟩
  obtain ⟨t2, d2, ks2⟩ := x
  obtain ⟨zA, zk, zA', zk', rfl, rfl, rfl, -⟩ := XAt.shape hx
  have h60 := (hg.block (w.heap.size + 1) (by omega) (by simp)).trans q60
  have hsz2 := hg.size
  have f0 := frozen_of_row _ _ 0 _ _ h60
  have f1 := frozen_of_row _ _ 1 _ _ h60
  have f2 := frozen_of_row _ _ 2 _ _ h60
  have p0 : w2.cell? ⟨w.heap.size + 1, 0, none⟩ = some (.int .i64 0) := (cell_of_row _ _ 0 _ _ (0, 0) h60).trans rfl
  have p1 : w2.cell? ⟨w.heap.size + 1, 1, none⟩ = some (.slice none 0 0) := (cell_of_row _ _ 1 _ _ (0, 0) h60).trans rfl
  have p2 : w2.cell? ⟨w.heap.size + 1, 2, none⟩ = some (.slice none 0 0) := (cell_of_row _ _ 2 _ _ (0, 0) h60).trans rfl
  have fq := three_set h60 (.int .i64 t2) (.slice zA d2.length zk) (.slice zA' ks2.length zk')
  have bl : Below w.heap.size w (((w2.setCell ⟨w.heap.size + 1, 0, none⟩ (.int .i64 t2)).setCell ⟨w.heap.size + 1, 1, none⟩ (.slice zA d2.length zk)).setCell ⟨w.heap.size + 1, 2, none⟩ (.slice zA' ks2.length zk')) :=
    (((B1.grown hg (by omega) (fun q hq => by injection hq with hq; omega)).setCell (by simp) _).setCell (by simp) _).setCell (by simp) _
  have fp : NodePost w (.node t d ks) (.returned (.agg #[.int .i64 t2, .slice zA d2.length zk, .slice zA' ks2.length zk'])) (((w2.setCell ⟨w.heap.size + 1, 0, none⟩ (.int .i64 t2)).setCell ⟨w.heap.size + 1, 1, none⟩ (.slice zA d2.length zk)).setCell ⟨w.heap.size + 1, 2, none⟩ (.slice zA' ks2.length zk')) :=
    ⟨_, _, _, _, rfl, XAt.keep (fun g hg' => ⟨three_far _ _ _ _ (by omega), by omega, by rw [three_size]; exact hg'.2⟩) _ _ _ _ hx, hgx, hsm, bl⟩
  have FQ := Lib.hid fq
  have FP := Lib.hid fp
  clear fq fp hx hgx hsm hrm hg h60 bl ac q60 q3 B1
  go_wp2_with fail
  obtain ⟨W3, hW3⟩ : ∃ W3, W3 = (((w2.setCell ⟨w.heap.size + 1, 0, none⟩ (.int .i64 t2)).setCell ⟨w.heap.size + 1, 1, none⟩ (.slice zA d2.length zk)).setCell ⟨w.heap.size + 1, 2, none⟩ (.slice zA' ks2.length zk')) := ⟨_, rfl⟩
  have fq := FQ.out
  have fp := FP.out
  rw [← hW3] at fq fp
  rw [← hW3]
  have s0 : W3.cell? ⟨w.heap.size + 1, 0, none⟩ = some (.int .i64 t2) := (cell_of_row _ _ 0 _ _ (0, 0) fq).trans rfl
  have s1 : W3.cell? ⟨w.heap.size + 1, 1, none⟩ = some (.slice zA d2.length zk) := (cell_of_row _ _ 1 _ _ (0, 0) fq).trans rfl
  have s2 : W3.cell? ⟨w.heap.size + 1, 2, none⟩ = some (.slice zA' ks2.length zk') := (cell_of_row _ _ 2 _ _ (0, 0) fq).trans rfl
  exact bodyPost_ret (v := .agg #[.int .i64 t2, .slice zA d2.length zk, .slice zA' ks2.length zk']) (by simp [results, Try.results28, go_sem, s0, s1, s2]) rfl fp

set_option maxHeartbeats 1000000 in
theorem zzFits1_calls (t : Int) (A A' : Option Addr) (n c n' c' : Nat) (w : World) (hn : n ≤ 9223372036854775807) (hn' : n' ≤ 9223372036854775807) :
    Calls Try.prog 27 #[.agg #[.int .i64 t, .slice A n c, .slice A' n' c']] w fun e w' => ∃ r, e = .returned (.bool r) ∧ Below w.heap.size w w' := by
  by_cases h : 2147483647 < n
  · go_enter Try.func27, Try.ntmps27
    go_wp2_with fail
    go_ret
    exact ⟨_, rfl, (Below.refl _ w).alloc (Nat.le_refl _) _⟩
  · by_cases h2 : 2147483647 < n'
    · go_enter Try.func27, Try.ntmps27
      go_wp2_with fail
      go_ret
      exact ⟨_, rfl, (Below.refl _ w).alloc (Nat.le_refl _) _⟩
    · go_enter Try.func27, Try.ntmps27
      go_wp2_with fail
      go_ret
      exact ⟨_, rfl, (Below.refl _ w).alloc (Nat.le_refl _) _⟩

theorem Smalls.mem : ∀ {l : List Tree} {k : Nat} (h : k < l.length), Smalls l → Small l[k]
  | x :: r, 0, _, h => by simp only [Smalls] at h; simpa using h.1
  | x :: r, k + 1, hk, h => by
    simp only [Smalls] at h
    have := Smalls.mem (l := r) (k := k) (by simpa using hk) h.2
    simpa using this

def ProperPost (w : World) (T : Tree) (rb : Nat) (room : Int) (e : Ending) (w' : World) : Prop :=
  ∃ r room', e = .returned (.bool r) ∧ Room w' rb room' ∧ (r = true → 0 ≤ room' ∧ room' + cost T = room ∧ Good T) ∧ w.grownBy w' (some rb)

def ProperCalls (T : Tree) : Prop := ∀ (w0 w : World) (F : Nat → Prop) (a b c : Value) (deep rb : Nat) (room : Int), XAt w0 w F a b c T → (∀ g, F g → g ≠ rb ∧ g < w.heap.size) → Small T → Room w rb room → deep ≤ 6 → 0 ≤ room → room ≤ 4000 →
  Calls Try.prog 58 #[.agg #[a, b, c], .int .i64 deep, .pointer (some ⟨rb, 0, none⟩)] w fun e w' => ProperPost w T rb room e w'

set_option maxHeartbeats 4000000 in
set_option maxRecDepth 100000 in
theorem proper_step (t : Int) (d : List Int) (ks : List Tree) (ih : ∀ x ∈ ks, ProperCalls x) : ProperCalls (.node t d ks) := by
  intro w0 w F a b c deep rb room hT hF hsmall hroom hdeep hr0 hr1
  obtain ⟨A, k1, A', k2, rfl, rfl, rfl, hdb, hdl, hk2, hk3, hbytes, hks⟩ := XAt.shape hT
  simp only [Small] at hsmall
  have hd4 := hsmall.1
  have HIH := Lib.hid ih
  have HROOM := Lib.hid hroom
  have HKS := Lib.hid hks
  have HF := Lib.hid hF
  have HSM := Lib.hid hsmall.2
  have lrb := lt_of_block hroom
  clear ih hbytes hks hdb hT hF hsmall
  obtain ⟨r, hr⟩ : ∃ r, r = room - 8 - (d.length : Int) := ⟨_, rfl⟩
  have w8 : IntKind.i64.wrap (8 + (d.length : Int)) = 8 + (d.length : Int) := IntWalk.i64_in _ (by omega)
  have w9 : IntKind.i64.wrap (room - (8 + (d.length : Int))) = r := by rw [show room - (8 + (d.length : Int)) = r from by omega]; exact IntWalk.i64_in _ (by omega)
  have HRR := Lib.hid hr
  have hr4 : r ≤ 4000 := by omega
  have hr5 : -9223372036854775808 ≤ r := by omega
  clear hr
  go_enter Try.func58, Try.ntmps58
  obtain ⟨W1, hW1⟩ : ∃ W1, W1 = w.alloc (.cells #[.int .i64 t, .slice A d.length k1, .slice A' ks.length k2] 60) := ⟨_, rfl⟩
  have D1 : Below w.heap.size w W1 := by rw [hW1]; exact (Below.refl _ w).alloc (Nat.le_refl _) _
  have q3 : Three W1 w.heap.size (.int .i64 t) (.slice A d.length k1) (.slice A' ks.length k2) := by rw [hW1]; exact three_new w _ _ _ _
  have r1 : Room W1 rb room := (D1.block rb lrb).trans hroom
  have cr : W1.cell? ⟨rb, 0, none⟩ = some (.int .i64 room) := cell_of_one r1
  have fr := free_of_one r1
  obtain ⟨q30, q31, q32⟩ := q3
  have hsz1 : W1.heap.size = w.heap.size + 1 := by rw [hW1]; simp
  go_wp2_with fail
  rw [← hW1]
  clear hW1 hroom
  go_region
  obtain ⟨W2, hW2⟩ : ∃ W2, W2 = (W1.setCell ⟨rb, 0, none⟩ (.int .i64 r)).drew := ⟨_, rfl⟩
  rw [← hW2]
  have r2 : Room W2 rb r := by rw [hW2]; exact one_setCell r1
  have keep2 : ∀ k, k ≠ rb → W2.heap[k]? = W1.heap[k]? := fun k hk => by rw [hW2]; exact Below.heap_setCell W1 _ _ _ hk
  have hsz2 : W2.heap.size = w.heap.size + 1 := by rw [hW2]; simp [World.setCell, hsz1]
  have hg2 : w.grownBy W2 (some rb) := by
    rw [hW2]
    exact ⟨D1.os, D1.tape, D1.output, by simp [World.setCell, hsz1], fun k hk hne => by
      have h := Below.heap_setCell W1 ⟨rb, 0, none⟩ (.int .i64 r) k (fun e => hne (by simp at e; rw [e]))
      exact h.trans (D1.block k hk)⟩
  have cq : ∀ j, W2.cell? ⟨w.heap.size, j, none⟩ = W1.cell? ⟨w.heap.size, j, none⟩ := fun j => World.cell?_of_block (keep2 _ (by simp; omega))
  rw [← cq] at q30 q31 q32
  have cr2 : W2.cell? ⟨rb, 0, none⟩ = some (.int .i64 r) := cell_of_one r2
  have R2 := Lib.hid r2
  have HG2 := Lib.hid hg2
  clear hW2 r2 hg2 D1 keep2 cq r1 cr fr hsz1 w8 w9
  by_cases hneg : r < 0
  · have hneg' : decide (r < 0) = true := by simpa using hneg
    go_wp2_with fail
    go_ret
    exact ⟨_, r, rfl, R2.out, (fun h => by cases h), HG2.out⟩
  · have hneg' : decide (r < 0) = false := by simpa using hneg
    by_cases hd0 : deep = 0
    · subst hd0
      go_wp2_with fail
      go_ret
      exact ⟨_, r, rfl, R2.out, (fun h => by cases h), HG2.out⟩
    · obtain ⟨dp, rfl⟩ : ∃ dp, deep = dp + 1 := ⟨deep - 1, by omega⟩
      have hd0' : ((((dp + 1 : Nat) : Int)) == 0) = false := by rw [beq_eq_false_iff_ne]; omega
      by_cases ht0 : t < 0
      · have ht0' : decide (t < 0) = true := by simpa using ht0
        go_wp2_with fail
        go_ret
        exact ⟨_, r, rfl, R2.out, (fun h => by cases h), HG2.out⟩
      · have ht0' : decide (t < 0) = false := by simpa using ht0
        by_cases ht1 : 65535 < t
        · have ht1' : decide (65535 < t) = true := by simpa using ht1
          go_wp2_with fail
          go_ret
          exact ⟨_, r, rfl, R2.out, (fun h => by cases h), HG2.out⟩
        · have ht1' : decide (65535 < t) = false := by simpa using ht1
          by_cases hdk : 0 < d.length ∧ 0 < ks.length
          · have hx1 : decide ((0 : Int) < (d.length : Int)) = true := by rw [decide_eq_true_eq]; omega
            have hx2 : decide ((0 : Int) < (ks.length : Int)) = true := by rw [decide_eq_true_eq]; omega
            go_wp2_with fail
            go_ret
            exact ⟨_, r, rfl, R2.out, (fun h => by cases h), HG2.out⟩
          · have hdk2 : d.length = 0 ∨ ks.length = 0 := by omega
            have HDK := Lib.hid (show d = [] ∨ ks = [] from hdk2.imp List.eq_nil_of_length_eq_zero List.eq_nil_of_length_eq_zero)
            have lrb2 : rb < W2.heap.size := by omega
            by_cases hd00 : d.length = 0
            · clear hdk hdk2
              go_wp2_with fail
              go_loopw [51] (fun i wr => ∃ (k : Nat) (r' : Int), k ≤ ks.length ∧ i = .int .i64 (k : Nat) ∧ Room wr rb r' ∧ 0 ≤ r' ∧ r' + costs (ks.take k) = r ∧ Goods (ks.take k) ∧ w.grownBy wr (some rb)) (fun i _ => ks.length - (intOf i).toNat)
              case atStart => exact ⟨0, r, Nat.zero_le _, rfl, R2.out, by omega, by simp [costs], by simp [Goods], HG2.out⟩
              case round =>
                obtain ⟨k, r', hk, rfl, hrm, hr0', hcost, hgood, hg⟩ := hrel
                have lrbr := lt_of_block hrm
                have hsz := hg.size
                have HRM := Lib.hid hrm
                have HC := Lib.hid hcost
                have HGD := Lib.hid hgood
                have HG := Lib.hid hg
                have hr4' : r' ≤ 4000 := by omega
                clear hrm hcost hgood hg
                by_cases hlt : k < ks.length
                · obtain ⟨bb, o, rfl, hFb, hxs⟩ := HKS.out (by rintro rfl; simp at hlt)
                  obtain ⟨ka, kb, kc, e0, e1, e2, hkid⟩ := XsAt.get ks bb o k hlt hxs
                  have hF1 := HF.out bb hFb
                  have ebb : wr.heap[bb]? = w.heap[bb]? := HG.out.block bb hF1.2 (by simp; exact hF1.1)
                  have f0' := (World.cell?_of_block (a := ⟨bb, o + k * 3, none⟩) ebb).trans e0
                  have f1' := (World.cell?_of_block (a := ⟨bb, o + k * 3 + 1, none⟩) ebb).trans e1
                  have f2' := (World.cell?_of_block (a := ⟨bb, o + k * 3 + 2, none⟩) ebb).trans e2
                  obtain ⟨T1, hT1⟩ : ∃ T1, T1 = ks[k] := ⟨_, rfl⟩
                  have hin : T1 ∈ ks := by rw [hT1]; exact List.getElem_mem hlt
                  have hsm1 : Small T1 := by rw [hT1]; exact Smalls.mem hlt HSM.out
                  rw [← hT1] at hkid
                  have hsnoc : ks.take (k + 1) = ks.take k ++ [T1] := by rw [hT1]; exact List.take_succ_eq_append_getElem hlt
                  have KIH := Lib.hid (HIH.out T1 hin)
                  have KID := Lib.hid hkid
                  have HSN := Lib.hid hsnoc
                  have HS1 := Lib.hid hsm1
                  obtain ⟨t', d', ks''⟩ := T1
                  obtain ⟨xA, xk, yA, yk, rfl, rfl, rfl, -⟩ := XAt.shape hkid
                  have hne : 0 < ks.length := by omega
                  have wdp : IntKind.i64.wrap (dp : Int) = (dp : Int) := IntWalk.i64_in _ (by omega)
                  clear hxs e0 e1 e2 hkid hT1 hin hsnoc ebb hsm1 hF1 hFb
                  go_wp2_with fail
                  obtain ⟨W5, hW5⟩ : ∃ W5, W5 = wr.alloc (.cells #[.int .i64 t', .slice xA d'.length xk, .slice yA ks''.length yk] 60) := ⟨_, rfl⟩
                  have D5 : Below wr.heap.size wr W5 := by rw [hW5]; exact (Below.refl _ wr).alloc (Nat.le_refl _) _
                  rw [← hW5]
                  have HD5 := Lib.hid D5
                  have z5 := D5.size
                  clear hW5 D5
                  refine (KIH.out w0 W5 F _ _ _ dp rb r' (XAt.keep (fun g hg => ⟨(HD5.out.block g (by have := (HF.out g hg).2; omega)).trans (HG.out.block g (HF.out g hg).2 (by simp; exact (HF.out g hg).1)), hg⟩) _ _ _ _ KID.out) (fun g hg => ⟨(HF.out g hg).1, by have := (HF.out g hg).2; omega⟩) HS1.out ((HD5.out.block rb lrbr).trans HRM.out) (by omega) hr0' hr4').mono ?_
                  rintro e w6 ⟨b6, r6, rfl, hrm6, h6, hg6⟩
                  have HG6 := Lib.hid (grown_trans HG.out (grown_trans (below_row HD5.out (some rb)) hg6))
                  have HRM6 := Lib.hid hrm6
                  have H6 := Lib.hid h6
                  clear hg6 hrm6 h6
                  cases b6 with
                  | false =>
                    go_wp2_with fail
                    go_ret
                    exact ⟨_, r6, rfl, HRM6.out, (fun h => by cases h), HG6.out⟩
                  | true =>
                    go_wp2_with fail
                    go_roundw
                    case rel =>
                      obtain ⟨q1, q2, q3⟩ := H6.out trivial
                      have hc := HC.out
                      refine ⟨k + 1, r6, by omega, by go_num, HRM6.out, q1, ?_, ?_, HG6.out⟩
                      · rw [HSN.out, costs_snoc]; push_cast; omega
                      · rw [HSN.out, Goods.snoc]; exact ⟨HGD.out, q3⟩
                    case measure => simp [intOf]; omega
                · have hkk : k = ks.length := by omega
                  subst hkk
                  have hc := HC.out
                  have hgd := HGD.out
                  rw [List.take_length] at hc hgd
                  have HC2 := Lib.hid hc
                  have HGD2 := Lib.hid hgd
                  clear hc hgd HC HGD
                  go_wp2_with fail
                  go_ret
                  refine ⟨_, r', rfl, HRM.out, fun _ => ⟨hr0', ?_, ?_⟩, HG.out⟩
                  · have h1 := HC2.out
                    have h2 := HRR.out
                    rw [cost]; push_cast; omega
                  · simp only [Good]; exact ⟨by omega, by omega, HDK.out, HGD2.out⟩
            · obtain ⟨m, hm⟩ : ∃ m, d.length = m + 1 := ⟨d.length - 1, by omega⟩
              have hk0 : ks = [] := by
                rcases hdk2 with h | h
                · exact absurd h hd00
                · exact List.eq_nil_of_length_eq_zero h
              subst hk0
              clear hdk hdk2 hd00
              go_wp2_with fail
              go_loopw [51] (fun i wr => i = .int .i64 0 ∧ wr = W2) (fun _ _ => 0)
              case atStart => exact ⟨rfl, rfl⟩
              case round =>
                obtain ⟨rfl, rfl⟩ := hrel
                go_wp2_with fail
                go_ret
                refine ⟨_, r, rfl, R2.out, fun _ => ⟨by omega, ?_, ?_⟩, HG2.out⟩
                · have h2 := HRR.out
                  rw [cost, costs]; push_cast; omega
                · simp only [Good, Goods]; exact ⟨by omega, by omega, .inr trivial, trivial⟩

/-- Whether an attribute of whatever depth is one that is compared. -/
theorem proper_calls : ∀ T : Tree, ProperCalls T
  | .node t d ks => proper_step t d ks (fun x _ => proper_calls x)
termination_by T => SizeOf.sizeOf T
decreasing_by
  rename_i h
  have := List.sizeOf_lt_of_mem h
  simp
  omega

def FitsPost (w : World) (T : Tree) (e : Ending) (w' : World) : Prop := ∃ r, e = .returned (.bool r) ∧ (r = true → cost T ≤ 4000 ∧ Good T) ∧ Below w.heap.size w w'

set_option maxHeartbeats 1000000 in
set_option maxRecDepth 100000 in
theorem fits_calls (T : Tree) (w0 w : World) (F : Nat → Prop) (a b c : Value) (hT : XAt w0 w F a b c T) (hF : ∀ g, F g → g < w.heap.size) (hs : Small T) : Calls Try.prog 29 #[.agg #[a, b, c]] w fun e w' => FitsPost w T e w' := by
  have HT := Lib.hid hT
  have HF := Lib.hid hF
  have HS := Lib.hid hs
  obtain ⟨t, d, ks⟩ := T
  obtain ⟨A, k1, A', k2, rfl, rfl, rfl, -⟩ := XAt.shape hT
  clear hT hF hs
  go_enter Try.func29, Try.ntmps29
  obtain ⟨W1, hW1⟩ : ∃ W1, W1 = (w.alloc (.cells #[.int .i64 t, .slice A d.length k1, .slice A' ks.length k2] 60)).alloc (.cells #[.int .i64 4000] 3) := ⟨_, rfl⟩
  have B1 : Below w.heap.size w W1 := by rw [hW1]; exact below2 w _ _
  have q3 : Room W1 (w.heap.size + 1) 4000 := by
    have h := heap_alloc_new (w.alloc (.cells #[.int .i64 t, .slice A d.length k1, .slice A' ks.length k2] 60)) (.cells #[.int .i64 4000] 3)
    rw [show (w.alloc (.cells #[.int .i64 t, .slice A d.length k1, .slice A' ks.length k2] 60)).heap.size = w.heap.size + 1 from by simp] at h
    rw [hW1]; exact h
  have HW1 := Lib.hid hW1
  have hsz1 := B1.size
  clear hW1
  go_wp2_with fail
  rw [← HW1.out]
  have pc := proper_calls (.node t d ks) w0 W1 F _ _ _ 6 (w.heap.size + 1) 4000 (XAt.keep (fun g hg => ⟨B1.block g (HF.out g hg), hg⟩) _ _ _ _ HT.out) (fun g hg => by have := HF.out g hg; omega) HS.out q3 (by omega) (by omega) (by omega)
  refine pc.mono ?_
  rintro e w2 ⟨r, r2, rfl, hrm, h6, hg⟩
  have HB := Lib.hid (B1.grown hg hsz1 (fun q hq => by injection hq with hq; omega))
  have H6 := Lib.hid h6
  clear pc h6 hg hrm B1 q3
  go_wp2_with fail
  go_ret
  exact ⟨r, rfl, fun h => by obtain ⟨q1, q2, q3⟩ := H6.out h; exact ⟨by omega, q3⟩, HB.out⟩
end Go.Proofs.Ytbogknjgjbhagaa
