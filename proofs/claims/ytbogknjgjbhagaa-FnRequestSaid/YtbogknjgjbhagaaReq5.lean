/- The statement on requests: it answers true, whatever comes in. -/
import Derived.Test.YtbogknjgjbhagaaReq4
namespace Go.Proofs.Ytbogknjgjbhagaa
open Go.RowKit
set_option linter.unusedSimpArgs false

def Node0Post (w0 w : World) (T : Tree) (e : Ending) (w' : World) : Prop :=
  ∃ a b c x, e = .returned (.agg #[a, b, c]) ∧ XAt w0 w' (fun g => w.heap.size ≤ g ∧ g < w'.heap.size) a b c x ∧ (Good x → x = T) ∧ Small x ∧ Below w.heap.size w w'

set_option maxHeartbeats 2000000 in
set_option maxRecDepth 100000 in
theorem node0_calls (T : Tree) (w0 w : World) (a b c : Value) (hT : XAt w0 w0 (fun _ => True) a b c T) (hb0 : Below w0.heap.size w0 w) : Calls Try.prog 28 #[.agg #[a, b, c]] w fun e w' => Node0Post w0 w T e w' := by
  have HT := Lib.hid hT
  have HB0 := Lib.hid hb0
  have hbs := hb0.size
  obtain ⟨t, d, ks⟩ := T
  obtain ⟨A, k1, A', k2, rfl, rfl, rfl, -⟩ := XAt.shape hT
  clear hT hb0
  go_enter Try.func28, Try.ntmps28
  obtain ⟨W1, hW1⟩ : ∃ W1, W1 = ((w.alloc (.cells #[.int .i64 t, .slice A d.length k1, .slice A' ks.length k2] 56)).alloc (.cells #[.int .i64 0, .slice none 0 0, .slice none 0 0] 60)).alloc (.cells #[.int .i64 4000] 3) := ⟨_, rfl⟩
  have B1 : Below w.heap.size w W1 := by rw [hW1]; exact below3 w _ _ _
  have q60 : W1.heap[w.heap.size + 1]? = some (.cells #[.int .i64 0, .slice none 0 0, .slice none 0 0] 60 (0, 0)) := by
    rw [hW1]; exact alloc_at3' w _ _ _
  have q3 : Room W1 (w.heap.size + 2) 4000 := by
    have h := heap_alloc_new ((w.alloc (.cells #[.int .i64 t, .slice A d.length k1, .slice A' ks.length k2] 56)).alloc (.cells #[.int .i64 0, .slice none 0 0, .slice none 0 0] 60)) (.cells #[.int .i64 4000] 3)
    rw [show ((w.alloc (.cells #[.int .i64 t, .slice A d.length k1, .slice A' ks.length k2] 56)).alloc (.cells #[.int .i64 0, .slice none 0 0, .slice none 0 0] 60)).heap.size = w.heap.size + 2 from by simp] at h
    rw [hW1]; exact h
  have HW1 := Lib.hid hW1
  have hsz1 : W1.heap.size = w.heap.size + 3 := by rw [hW1]; simp
  clear hW1
  go_wp2_with fail
  rw [← HW1.out]
  have ac := among_calls w0 (.node t d ks) W1 _ _ _ 8 (w.heap.size + 2) 4000 HT.out (HB0.out.trans (B1.mono hbs)) (by omega) q3 (by omega) (by omega) (by omega)
  refine ac.mono ?_
  rintro e w2 ⟨a2, b2, c2, x, r, rfl, hx, hgx, hsm, hr1, hr2, hrm, hg⟩
  obtain ⟨t2, d2, ks2⟩ := x
  obtain ⟨zA, zk, zA', zk', rfl, rfl, rfl, -⟩ := XAt.shape hx
  have h60 := (hg.block (w.heap.size + 1) (by omega) (by simp)).trans q60
  have hsz2 := hg.size
  have f0 := frozen_of_row _ _ 0 _ _ h60
  have f1 := frozen_of_row _ _ 1 _ _ h60
  have f2 := frozen_of_row _ _ 2 _ _ h60
  have p0 : w2.cell? ⟨w.heap.size + 1, 0, none⟩ = some (.int .i64 0) := (cell_of_row _ _ 0 _ _ (0, 0) h60).trans rfl
  have p1 : w2.cell? ⟨w.heap.size + 1, 1, none⟩ = some (.slice none 0 0) := (cell_of_row _ _ 1 _ _ (0, 0) h60).trans rfl
  have p2 : w2.cell? ⟨w.heap.size + 1, 2, none⟩ = some (.slice none 0 0) := (cell_of_row _ _ 2 _ _ (0, 0) h60).trans rfl
  have fq := three_set h60 (.int .i64 t2) (.slice zA d2.length zk) (.slice zA' ks2.length zk')
  have bl : Below w.heap.size w (((w2.setCell ⟨w.heap.size + 1, 0, none⟩ (.int .i64 t2)).setCell ⟨w.heap.size + 1, 1, none⟩ (.slice zA d2.length zk)).setCell ⟨w.heap.size + 1, 2, none⟩ (.slice zA' ks2.length zk')) :=
    (((B1.grown hg (by omega) (fun q hq => by injection hq with hq; omega)).setCell (by simp) _).setCell (by simp) _).setCell (by simp) _
  have fp : Node0Post w0 w (.node t d ks) (.returned (.agg #[.int .i64 t2, .slice zA d2.length zk, .slice zA' ks2.length zk'])) (((w2.setCell ⟨w.heap.size + 1, 0, none⟩ (.int .i64 t2)).setCell ⟨w.heap.size + 1, 1, none⟩ (.slice zA d2.length zk)).setCell ⟨w.heap.size + 1, 2, none⟩ (.slice zA' ks2.length zk')) :=
    ⟨_, _, _, _, rfl, XAt.keep (fun g hg' => ⟨three_far _ _ _ _ (by omega), by omega, by rw [three_size]; exact hg'.2⟩) _ _ _ _ hx, hgx, hsm, bl⟩
  have FQ := Lib.hid fq
  have FP := Lib.hid fp
  clear fq fp hx hgx hsm hrm hg h60 bl ac q60 q3 B1
  go_wp2_with fail
  obtain ⟨W3, hW3⟩ : ∃ W3, W3 = (((w2.setCell ⟨w.heap.size + 1, 0, none⟩ (.int .i64 t2)).setCell ⟨w.heap.size + 1, 1, none⟩ (.slice zA d2.length zk)).setCell ⟨w.heap.size + 1, 2, none⟩ (.slice zA' ks2.length zk')) := ⟨_, rfl⟩
  have fq := FQ.out
  have fp := FP.out
  rw [← hW3] at fq fp
  rw [← hW3]
  have s0 : W3.cell? ⟨w.heap.size + 1, 0, none⟩ = some (.int .i64 t2) := (cell_of_row _ _ 0 _ _ (0, 0) fq).trans rfl
  have s1 : W3.cell? ⟨w.heap.size + 1, 1, none⟩ = some (.slice zA d2.length zk) := (cell_of_row _ _ 1 _ _ (0, 0) fq).trans rfl
  have s2 : W3.cell? ⟨w.heap.size + 1, 2, none⟩ = some (.slice zA' ks2.length zk') := (cell_of_row _ _ 2 _ _ (0, 0) fq).trans rfl
  exact bodyPost_ret (v := .agg #[.int .i64 t2, .slice zA d2.length zk, .slice zA' ks2.length zk']) (by simp [results, Try.results28, go_sem, s0, s1, s2]) rfl fp

/-- The copies so far: a row of records, their rows elsewhere. -/
structure NodSt (w wr : World) (k : Nat) (v : Value) (hs : List (Value × Value × Value)) (l : List Tree) : Prop where
  own : wr.ownsRow w.heap.size 60 3 v k (fl triH hs)
  row : XRow w wr (fun g => w.heap.size ≤ g ∧ g < wr.heap.size ∧ v.ownBlock ≠ some g) hs l
  len : l.length = k
  below : Below w.heap.size w wr

theorem NodSt.later {w wr W : World} {k : Nat} {v : Value} {hs : List (Value × Value × Value)} {l : List Tree} (h : NodSt w wr k v hs l) (hb : Below wr.heap.size wr W) : NodSt w W k v hs l := by
  have z := hb.size
  have z2 := h.below.size
  exact ⟨own_below h.own hb, h.row.keep fun g hg => ⟨hb.block g hg.2.1, hg.1, by omega, hg.2.2⟩, h.len, h.below.trans (hb.mono z2)⟩

theorem NodSt.next {w w6 w7 : World} {k : Nat} {v : Value} {hs : List (Value × Value × Value)} {l : List Tree} (h : NodSt w w7 k v hs l) {p : Value × Value × Value} {x : Tree} (hx : XAt w w7 (fun g => w6.heap.size ≤ g ∧ g < w7.heap.size) p.1 p.2.1 p.2.2 x)
    (hv : ∀ g, v.ownBlock = some g → g < w6.heap.size) (h6 : w.heap.size ≤ w6.heap.size) (hk : k ≤ 4000) (hone : ∀ u ∈ triH p, u.oneCell' = true) (g0 : Nat) (hc : ∀ j u, (triH p)[j]? = some u → w7.cell? ((⟨g0, 0, none⟩ : Addr).add j) = some u) :
    ∃ A' c' w8, (Builtin.append_ #[58, 58] 58 #[v, .slice (some ⟨g0, 0, none⟩) 1 1]).run Try.prog w7 = .ok (.slice A' (k + 1) c') w8 ∧ NodSt w w8 (k + 1) (.slice A' (k + 1) c') (hs ++ [p]) (l ++ [x]) := by
  obtain ⟨i0, hi, hz0, hz1, hz2⟩ := info_parts Try.info60
  have z := h.below.size
  obtain ⟨v', w8, hr, ho, hg, hwh⟩ := run_append_where (P := Try.prog) w7 w.heap.size 58 58 60 i0 (.agg #[.int .i64 0, .slice none 0 0, .slice none 0 0]) 3 56 Try.underlying58 hi hz0 hz1 hz2 rfl (by decide) v k (fl triH hs) h.own ⟨g0, 0, none⟩ 1 1 (triH p) rfl hc hone (by unfold maxLen; omega) (by omega) (by omega)
  obtain ⟨A', c', rfl, -, -, -⟩ := Rd.of_own ho
  have hsz8 := hg.size
  have new : ∀ g, g < w7.heap.size → v.ownBlock ≠ some g → (Value.slice A' (k + 1) c').ownBlock ≠ some g := fun g h1 h2 e => by
    rcases hwh g e with h3 | h3
    · exact h2 h3
    · omega
  have keep : ∀ g, g < w7.heap.size → v.ownBlock ≠ some g → w8.heap[g]? = w7.heap[g]? := fun g h1 h2 => hg.block g h1 (fun e => h2 e.symm)
  refine ⟨A', c', w8, hr, by rw [fl_snoc]; exact ho, ?_, by rw [List.length_append, h.len, List.length_singleton], h.below.grown hg z (fun q hq => (own_block h.own q hq).1)⟩
  refine XRow.snoc (h.row.keep fun g hgF => ⟨keep g hgF.2.1 hgF.2.2, hgF.1, by omega, new g hgF.2.1 hgF.2.2⟩) (XAt.keep (fun g hgF => ?_) _ _ _ _ hx)
  have hvg : v.ownBlock ≠ some g := fun e => by have := hv g e; omega
  exact ⟨keep g hgF.2 hvg, by omega, by omega, new g hgF.2 hvg⟩

set_option maxHeartbeats 4000000 in
set_option maxRecDepth 100000 in
theorem fnRequest_calls (t f s : Int) (A : Option Addr) (c : Nat) (l : List Tree) (Ar : Option Addr) (cr : Nat) (raw : List Int) (w : World)
    (hl : l ≠ [] → ∃ bb o, A = some ⟨bb, o, none⟩ ∧ XsAt w w (fun _ => True) bb o l) (hll : l.length ≤ 9223372036854775807) (hraw : BytesAt w (.slice Ar raw.length cr) raw) (hrl : raw.length ≤ 9223372036854775807)
    (ht : -9223372036854775808 ≤ t ∧ t ≤ 9223372036854775807) (hf : -9223372036854775808 ≤ f ∧ f ≤ 9223372036854775807) (hs : 0 ≤ s ∧ s < 4294967296) :
    Calls Try.prog 8 #[.int .i64 t, .int .i64 f, .int .u32 s, .slice A l.length c, .slice Ar raw.length cr] w fun e w' => e = .returned (.bool true) ∧ Below w.heap.size w w' := by
  have HL := Lib.hid hl
  have HRAW := Lib.hid hraw
  clear hl hraw
  obtain ⟨r, hr⟩ : ∃ r, r = raw.length := ⟨_, rfl⟩
  have HR := Lib.hid hr
  rw [← hr] at hrl
  rw [← hr]
  clear hr
  by_cases h1 : 2147483647 < l.length
  · go_enter Try.func8, Try.ntmps8
    go_wp2_with fail
    go_ret
    exact ⟨rfl, Below.refl _ _⟩
  by_cases h2 : 2147483647 < r
  · go_enter Try.func8, Try.ntmps8
    go_wp2_with fail
    go_ret
    exact ⟨rfl, Below.refl _ _⟩
  by_cases k1 : t < 0
  · have k1' : decide (t < 0) = true := by simpa using k1
    go_enter Try.func8, Try.ntmps8
    go_wp2_with (go_at_call 11; refine (works_calls _).mono ?_; rintro e w' ⟨rfl, rfl⟩)
    go_ret
    exact ⟨rfl, Below.refl _ _⟩
  have z1 : decide (t < 0) = false := by simpa using k1
  by_cases k2 : 65535 < t
  · have k2' : decide (65535 < t) = true := by simpa using k2
    go_enter Try.func8, Try.ntmps8
    go_wp2_with (go_at_call 11; refine (works_calls _).mono ?_; rintro e w' ⟨rfl, rfl⟩)
    go_ret
    exact ⟨rfl, Below.refl _ _⟩
  have z2 : decide (65535 < t) = false := by simpa using k2
  by_cases k3 : f < 0
  · have k3' : decide (f < 0) = true := by simpa using k3
    go_enter Try.func8, Try.ntmps8
    go_wp2_with (go_at_call 11; refine (works_calls _).mono ?_; rintro e w' ⟨rfl, rfl⟩)
    go_ret
    exact ⟨rfl, Below.refl _ _⟩
  have z3 : decide (f < 0) = false := by simpa using k3
  by_cases k4 : 65535 < f
  · have k4' : decide (65535 < f) = true := by simpa using k4
    go_enter Try.func8, Try.ntmps8
    go_wp2_with (go_at_call 11; refine (works_calls _).mono ?_; rintro e w' ⟨rfl, rfl⟩)
    go_ret
    exact ⟨rfl, Below.refl _ _⟩
  have z4 : decide (65535 < f) = false := by simpa using k4
  by_cases k5 : 10 < l.length
  · have k5' : decide ((10 : Int) < (l.length : Int)) = true := by simp; omega
    go_enter Try.func8, Try.ntmps8
    go_wp2_with (go_at_call 11; refine (works_calls _).mono ?_; rintro e w' ⟨rfl, rfl⟩)
    go_ret
    exact ⟨rfl, Below.refl _ _⟩
  have z5 : decide ((10 : Int) < (l.length : Int)) = false := by simp; omega
  by_cases k6 : 200 < r
  · have k6' : decide ((200 : Int) < (r : Int)) = true := by simp; omega
    go_enter Try.func8, Try.ntmps8
    go_wp2_with (go_at_call 11; refine (works_calls _).mono ?_; rintro e w' ⟨rfl, rfl⟩)
    go_ret
    exact ⟨rfl, Below.refl _ _⟩
  have z6 : decide ((200 : Int) < (r : Int)) = false := by simp; omega
  go_enter Try.func8, Try.ntmps8
  go_wp2_with fail
  clear z1 z2 z3 z4 z5 z6
  go_loopw [11, 52] (fun v i wr => ∃ (k : Nat) (hs' : List (Value × Value × Value)), k ≤ l.length ∧ i = .int .i64 (k : Nat) ∧ Hid (NodSt w wr k v hs' (l.take k)) ∧ Hid (Goods (l.take k)) ∧ Hid (∀ x ∈ l.take k, cost x ≤ 4000)) (fun _ i _ => l.length - (intOf i).toNat)
  case atStart => exact ⟨0, [], Nat.zero_le _, rfl, ⟨World.ownsRow_nil _ _ _ _, by simp [XRow], rfl, Below.refl _ _⟩, by simp [Goods, Hid], Lib.hid (by simp)⟩
  case round =>
    obtain ⟨k, hs', hk, rfl, ST, HGD, HCO⟩ := hrel
    obtain ⟨wx, rfl⟩ : ∃ wx : World, wx = wr := ⟨_, rfl⟩
    have hst := ST.out.below.size
    obtain ⟨Av, cv, rfl, hcv, hcv2, -⟩ := of_own_cap ST.out.own
    have hvl : ∀ b, (Value.slice Av k cv).ownBlock = some b → b < wx.heap.size := fun b e => own_lt ST.out.own e
    have HVL := Lib.hid hvl
    clear hvl
    by_cases hlt : k < l.length
    · obtain ⟨bb, o, rfl, hxs⟩ := HL.out (by rintro rfl; simp at hlt)
      obtain ⟨ka, kb, kc, e0, e1, e2, hkid⟩ := XsAt.get l bb o k hlt hxs
      have f0 := cells_one ST.out.below e0
      have f1 := cells_one ST.out.below e1
      have f2 := cells_one ST.out.below e2
      obtain ⟨T1, hT1⟩ : ∃ T1, T1 = l[k] := ⟨_, rfl⟩
      rw [← hT1] at hkid
      have hsnoc : l.take k ++ [T1] = l.take (k + 1) := by rw [hT1]; exact (List.take_succ_eq_append_getElem hlt).symm
      have KID := Lib.hid hkid
      have HSN := Lib.hid hsnoc
      obtain ⟨t', d', ks''⟩ := T1
      obtain ⟨xA, xk, yA, yk, rfl, rfl, rfl, -⟩ := XAt.shape hkid
      have hne : 0 < l.length := by omega
      clear hxs e0 e1 e2 hkid hT1 hsnoc
      go_wp2_with fail
      obtain ⟨W5, hW5⟩ : ∃ W5, W5 = wx.alloc (.cells #[.int .i64 t', .slice xA d'.length xk, .slice yA ks''.length yk] 56) := ⟨_, rfl⟩
      have D5 : Below wx.heap.size wx W5 := by rw [hW5]; exact (Below.refl _ wx).alloc (Nat.le_refl _) _
      rw [← hW5]
      have HD5 := Lib.hid D5
      have z5 := D5.size
      clear hW5 D5 f0 f1 f2
      refine (node0_calls _ w W5 _ _ _ KID.out (ST.out.below.trans (HD5.out.mono hst))).mono ?_
      rintro e w2 ⟨a2, b2, c2, x, rfl, hx, hgx, hsm, hb2⟩
      obtain ⟨t2, d2, ks2⟩ := x
      obtain ⟨zA, zk, zA', zk', rfl, rfl, rfl, -⟩ := XAt.shape hx
      have HX := Lib.hid hx
      have HGX := Lib.hid hgx
      have HSM := Lib.hid hsm
      have HB2 := Lib.hid hb2
      have z2 := hb2.size
      clear hx hgx hsm hb2
      go_wp2_with fail
      obtain ⟨W3, hW3⟩ : ∃ W3, W3 = w2.alloc (.cells #[.int .i64 t2, .slice zA d2.length zk, .slice zA' ks2.length zk'] 60) := ⟨_, rfl⟩
      have D3 : Below w2.heap.size w2 W3 := by rw [hW3]; exact (Below.refl _ w2).alloc (Nat.le_refl _) _
      have s3 : Three W3 w2.heap.size (.int .i64 t2) (.slice zA d2.length zk) (.slice zA' ks2.length zk') := by rw [hW3]; exact three_new w2 _ _ _ _
      rw [← hW3]
      have HD3 := Lib.hid D3
      have S3 := Lib.hid s3
      have z3 := D3.size
      clear hW3 D3 s3
      refine (fits_calls (.node t2 d2 ks2) w W3 _ _ _ _ (XAt.keep (F' := fun g => W5.heap.size ≤ g ∧ g < w2.heap.size) (fun g hg => ⟨HD3.out.block g hg.2, hg⟩) _ _ _ _ HX.out) (fun g hg => by omega) HSM.out).mono ?_
      rintro e w4 ⟨r4, rfl, h4, hb4⟩
      have s4 := S3.out.below hb4
      have BW := Lib.hid (below_trans HD5.out (below_trans HB2.out (below_trans HD3.out hb4)))
      have HB4 := Lib.hid (below_trans HD3.out hb4)
      have H4 := Lib.hid h4
      have z4 := hb4.size
      clear hb4 h4
      cases r4 with
      | false =>
        clear s4
        go_wp2_with (go_at_call 11; refine (works_calls _).mono ?_; rintro e w' ⟨rfl, rfl⟩)
        go_ret
        exact ⟨rfl, ST.out.below.trans (BW.out.mono hst)⟩
      | true =>
        obtain ⟨hcost, hgood⟩ := H4.out rfl
        have hxx := HGX.out hgood
        injection hxx with e1 e2 e3
        subst e1 e2 e3
        obtain ⟨p40, p41, p42⟩ := s4
        have D7 : Below w4.heap.size w4 (w4.alloc (.cells #[.int .i64 t2, .slice zA d2.length zk, .slice zA' ks2.length zk'] 60)) := (Below.refl _ _).alloc (Nat.le_refl _) _
        have z7 := D7.size
        have st7 := ST.out.later (below_trans BW.out D7)
        obtain ⟨A8, c8, w8, hrun, st8⟩ := st7.next (w6 := W5) (p := (.int .i64 t2, .slice zA d2.length zk, .slice zA' ks2.length zk')) (x := .node t2 d2 ks2) (XAt.keep (fun g hg => ⟨(D7.block g (by omega)).trans (HB4.out.block g hg.2), hg.1, by omega⟩) _ _ _ _ HX.out) (fun g e => Nat.lt_of_lt_of_le (HVL.out g e) z5) (by omega) (by omega) (by intro u hu; simp [triH] at hu; rcases hu with rfl | rfl | rfl <;> rfl) w4.heap.size (cell_three_new w4 _ _ _ _)
        rw [HSN.out] at st8
        have ST8 := Lib.hid st8
        have HGD8 : Hid (Goods (l.take (k + 1))) := by rw [← HSN.out]; exact Goods.snoc.2 ⟨HGD.out, hgood⟩
        have HCO8 : Hid (∀ x ∈ l.take (k + 1), cost x ≤ 4000) := by
          rw [← HSN.out]
          intro x hx
          rcases List.mem_append.1 hx with hx | hx
          · exact HCO.out x hx
          · rw [List.mem_singleton.1 hx]; exact hcost
        clear st7 st8 D7 hcost hgood
        go_wp2_with (at_builtin; refine wpList_app rfl _ _ 58 rfl rfl rfl hrun ?_)
        go_roundw
        case rel => exact ⟨k + 1, _, by omega, by go_num, ST8, HGD8, HCO8⟩
        case measure => simp [intOf]; omega
    · have hkl : k = l.length := by omega
      subst hkl
      rw [List.take_length] at ST HGD HCO
      have hrr : r ≤ 200 := by omega
      have hll2 : l.length ≤ 10 := by omega
      have ht2 : 0 ≤ t ∧ t < 65536 := by omega
      have hf2 : 0 ≤ f ∧ f < 65536 := by omega
      clear h1 h2 k1 k2 k3 k4 k5 k6
      have ic := implReq_calls w t f s A c l Ar cr raw wx HL.out ST.out.below HRAW.out HGD.out HCO.out hll2 (by rw [← HR.out]; exact hrr) ht2 hf2 hs
      rw [← HR.out] at ic
      have IC := Lib.hid ic
      clear ic
      go_wp2_with fail
      refine IC.out.mono ?_
      rintro e w5 ⟨v5, rfl, hown5, hb5⟩
      have hba := (own_bytesF hown5).at_
      obtain ⟨A5, c5, rfl, -, -, -⟩ := Rd.of_own hown5
      have HBA := Lib.hid hba
      have HB5 := Lib.hid (ST.out.below.trans (hb5.mono hst))
      have hz5 := hb5.size
      have hks : ∀ W : World, Below w5.heap.size w5 W → l ≠ [] → ∃ bb o, Av = some ⟨bb, o, none⟩ ∧ TreesAt W bb o l := fun W hW hne => by
        obtain ⟨A', c', e, -, hr, -⟩ := Rd.of_own ST.out.own
        injection e with e1 e2 e3
        subst e1
        obtain ⟨b, o, rfl, hcell⟩ := hr (fun e => by
          have h := congrArg List.length e
          rw [fl_length triH 3 triH_length, ST.out.row.1, List.length_nil] at h
          have := List.length_pos_iff.2 hne
          omega)
        refine ⟨b, o, rfl, ?_⟩
        have hxs : XsAt w wx (fun g => g < wx.heap.size) b o l := XRow.at_ _ l o (ST.out.row.keep fun g hg => ⟨rfl, hg.2.1⟩) hcell
        have BW : Below wx.heap.size wx W := hb5.trans (hW.mono hz5)
        exact XsAt.trees (ST.out.below.trans (BW.mono hst)) l b o (XsAt.keep (F' := fun _ => True) (fun g hg => ⟨BW.block g hg, trivial⟩) l b o (own_lt ST.out.own rfl) hxs) HGD.out
      have HKS := Lib.hid hks
      have hle := attrsB_few l HCO.out
      have hle2 : (attrsB l).length ≤ 100000 := by omega
      have HLE := Lib.hid hle2
      obtain ⟨q, hq⟩ : ∃ q, q = (reqB t f s (attrsB l ++ raw)).length := ⟨_, rfl⟩
      obtain ⟨str, hstr⟩ : ∃ str, str = strOfNums (reqB t f s (attrsB l ++ raw)) := ⟨_, rfl⟩
      have CV : Hid (∀ W, Below w5.heap.size w5 W → (convert 31 9 (.slice A5 (reqB t f s (attrsB l ++ raw)).length c5)).run Try.prog W = .ok (.string str) W) := fun W hW => by
        rw [hstr]
        exact conv_all _ _ _ (HBA.out.below hW)
      have HSTR := Lib.hid hstr
      rw [← hq] at CV
      rw [← hq]
      have HQ := Lib.hid hq
      clear hba hown5 hb5 hks hle hle2 hq hstr
      go_wp2_with fail
      refine wp_region_held_drew (S := fun W => (convert 31 9 (.slice A5 q c5)).run Try.prog W = .ok (.string str) W) (by kernel_rfl) (CV.out _ (Below.refl _ _).drew) (fun hHeld => ?_)
      refine wpAnyH_take (i := 0) (oi := ?o0) (v := ?v0) ?h0 (by kernel_rfl) (by kernel_rfl) (by kernel_rfl) ?q0 (Or.inl ⟨?w0, ?y0⟩) (by assumption) ?r0
      case h0 => (simp only [List.getElem?_toArray, List.getElem?_cons_succ, List.getElem?_cons_zero] <;> rfl)
      case q0 => exact fun _ _ _ h => h
      case w0 => rfl
      case y0 => (intro w hSw; (try dsimp only at hSw); go_simp; (try with_reducible rfl))
      try simp only [Act.put, List.setIfInBounds_toArray, List.set_cons_zero, List.set_cons_succ]
      refine wpAnyH_take (i := 1) (oi := ?o1) (v := ?v1) ?h1 (by kernel_rfl) (by kernel_rfl) (by kernel_rfl) ?q1 (Or.inl ⟨?w1, ?y1⟩) (by assumption) ?r1
      case h1 => (simp only [List.getElem?_toArray, List.getElem?_cons_succ, List.getElem?_cons_zero] <;> rfl)
      case q1 => exact fun _ _ _ h => h
      case w1 => rfl
      case y1 => (intro w hSw; (try dsimp only at hSw); go_simp; (try with_reducible rfl))
      try simp only [Act.put, List.setIfInBounds_toArray, List.set_cons_zero, List.set_cons_succ]
      refine wpAnyH_take (i := 2) (oi := ?o2) (v := ?v2) ?h2 (by kernel_rfl) (by kernel_rfl) (by kernel_rfl) ?q2 (Or.inl ⟨?w2, ?y2⟩) (by assumption) ?r2
      case h2 => (simp only [List.getElem?_toArray, List.getElem?_cons_succ, List.getElem?_cons_zero] <;> rfl)
      case q2 => exact fun _ _ _ h => h
      case w2 => rfl
      case y2 => (intro w hSw; (try dsimp only at hSw); go_simp; (try with_reducible rfl))
      try simp only [Act.put, List.setIfInBounds_toArray, List.set_cons_zero, List.set_cons_succ]
      refine wpAnyH_take (i := 3) (oi := ?o3) (v := ?v3) ?h3 (by kernel_rfl) (by kernel_rfl) (by kernel_rfl) ?q3 (Or.inl ⟨?w3, ?y3⟩) (by assumption) ?r3
      case h3 => (simp only [List.getElem?_toArray, List.getElem?_cons_succ, List.getElem?_cons_zero] <;> rfl)
      case q3 => exact fun _ _ _ h => h
      case w3 => rfl
      case y3 => (intro w hSw; (try dsimp only at hSw); go_simp; (try with_reducible rfl))
      try simp only [Act.put, List.setIfInBounds_toArray, List.set_cons_zero, List.set_cons_succ]
      refine wpAnyH_take (i := 4) (oi := ?o4) (v := ?v4) ?h4 (by kernel_rfl) (by kernel_rfl) (by kernel_rfl) ?q4 (Or.inl ⟨?w4, ?y4⟩) (by assumption) ?r4
      case h4 => (simp only [List.getElem?_toArray, List.getElem?_cons_succ, List.getElem?_cons_zero] <;> rfl)
      case q4 => exact fun _ _ _ h => h
      case w4 => rfl
      case y4 => (intro w hSw; (try dsimp only at hSw); go_simp; (try with_reducible rfl))
      try simp only [Act.put, List.setIfInBounds_toArray, List.set_cons_zero, List.set_cons_succ]
      refine wpAnyH_take (i := 5) (oi := ?o5) (v := ?v5) ?h5 (by kernel_rfl) (by kernel_rfl) (by kernel_rfl) ?q5 (Or.inl ⟨?w5, ?y5⟩) (by assumption) ?r5
      case h5 => (simp only [List.getElem?_toArray, List.getElem?_cons_succ, List.getElem?_cons_zero] <;> rfl)
      case q5 => exact fun _ _ _ h => h
      case w5 => rfl
      case y5 => (intro w hSw; (try dsimp only at hSw); go_simp; (try with_reducible rfl))
      try simp only [Act.put, List.setIfInBounds_toArray, List.set_cons_zero, List.set_cons_succ]
      refine wpAnyH_take (i := 6) (oi := ?o6) (v := ?v6) ?h6 (by kernel_rfl) (by kernel_rfl) (by kernel_rfl) ?q6 (Or.inl ⟨?w6, ?y6⟩) (by assumption) ?r6
      case h6 => (simp only [List.getElem?_toArray, List.getElem?_cons_succ, List.getElem?_cons_zero] <;> rfl)
      case q6 => exact fun _ _ _ h => h
      case w6 => rfl
      case y6 => (intro w hSw; (try dsimp only at hSw); go_simp; (try with_reducible rfl))
      try simp only [Act.put, List.setIfInBounds_toArray, List.set_cons_zero, List.set_cons_succ]
      refine wpAnyH_take (i := 7) (oi := ?o7) (v := ?v7) ?h7 (by kernel_rfl) (by kernel_rfl) (by kernel_rfl) ?q7 (Or.inl ⟨?w7, ?y7⟩) (by assumption) ?r7
      case h7 => (simp only [List.getElem?_toArray, List.getElem?_cons_succ, List.getElem?_cons_zero] <;> rfl)
      case q7 => exact fun _ _ _ h => h
      case w7 => rfl
      case y7 => (intro w hSw; (try dsimp only at hSw); go_simp; (try with_reducible rfl))
      try simp only [Act.put, List.setIfInBounds_toArray, List.set_cons_zero, List.set_cons_succ]
      refine wpAnyH_take (i := 8) (oi := ?o8) (v := ?v8) ?h8 (by kernel_rfl) (by kernel_rfl) (by kernel_rfl) ?q8 (Or.inl ⟨?w8, ?y8⟩) (by assumption) ?r8
      case h8 => (simp only [List.getElem?_toArray, List.getElem?_cons_succ, List.getElem?_cons_zero] <;> rfl)
      case q8 => exact fun _ _ _ h => h
      case w8 => rfl
      case y8 => (intro w hSw; (try dsimp only at hSw); go_simp; (try with_reducible rfl))
      try simp only [Act.put, List.setIfInBounds_toArray, List.set_cons_zero, List.set_cons_succ]
      refine wpAnyH_ready (rs := [9]) (by kernel_rfl) (by simp) ?_
      refine AllReadyH.cons (o := ?o9) ?h9 (fun K hK => ?_) AllReadyH.nil
      case h9 => (simp only [List.getElem?_toArray, List.getElem?_cons_succ, List.getElem?_cons_zero] <;> rfl)
      go_simp
      have sq := specReq_calls t f s Av cv l Ar cr raw _ (HKS.out _ (Below.refl _ _).drew) (HRAW.out.below (HB5.out.drew)) HLE.out (by rw [← HR.out]; exact hrr) ht2 hf2 hs
      rw [← HR.out] at sq
      refine sq.mono ?_
      rintro e w6 ⟨v6, rfl, hown6, hb6⟩
      rw [← reqB_length t f s] at hown6
      have B6 : Below w5.heap.size w5 w6 := below_trans (Below.refl _ _).drew hb6
      obtain ⟨A6, c6, rfl, -, -, -⟩ := Rd.of_own hown6
      have cvB := conv_all _ _ _ (own_bytesF hown6).at_
      rw [← HSTR.out] at cvB
      have HB6 := Lib.hid (HB5.out.trans (B6.mono HB5.out.size))
      refine hK.out _ _ ?s9 (fun hHeld => ?_)
      case s9 => exact CV.out _ B6
      clear hK K
      try simp only [Act.put, List.setIfInBounds_toArray, List.set_cons_zero, List.set_cons_succ]
      clear hown6 hb6 sq
      refine wpAnyH_imp (S' := fun W => W = w6) (fun W hW => hW ▸ hHeld) _ _ _ _ ?_
      have hHeld3 : (fun W => W = w6) w6 := rfl
      refine wpAnyH_take (i := 10) (oi := ?o10) (v := ?v10) ?h10 (by kernel_rfl) (by kernel_rfl) (by kernel_rfl) ?q10 (Or.inl ⟨?w10, ?y10⟩) (by assumption) ?r10
      case h10 => (simp only [List.getElem?_toArray, List.getElem?_cons_succ, List.getElem?_cons_zero] <;> rfl)
      case q10 => exact fun _ _ _ h => h
      case w10 => rfl
      case y10 => (intro w hSw; (try dsimp only at hSw); go_simp; (try with_reducible rfl))
      try simp only [Act.put, List.setIfInBounds_toArray, List.set_cons_zero, List.set_cons_succ]
      refine wpAnyH_take (i := 11) (oi := ?o11) (v := ?v11) ?h11 (by kernel_rfl) (by kernel_rfl) (by kernel_rfl) ?q11 (Or.inl ⟨?w11, ?y11⟩) (by assumption) ?r11
      case h11 => (simp only [List.getElem?_toArray, List.getElem?_cons_succ, List.getElem?_cons_zero] <;> rfl)
      case q11 => exact fun _ _ _ h => h
      case w11 => rfl
      case y11 => (intro w hSw; (try dsimp only at hSw); go_simp; (try with_reducible rfl))
      try simp only [Act.put, List.setIfInBounds_toArray, List.set_cons_zero, List.set_cons_succ]
      refine wpAnyH_take (i := 12) (oi := ?o12) (v := ?v12) ?h12 (by kernel_rfl) (by kernel_rfl) (by kernel_rfl) ?q12 (Or.inl ⟨?w12, ?y12⟩) (by assumption) ?r12
      case h12 => (simp only [List.getElem?_toArray, List.getElem?_cons_succ, List.getElem?_cons_zero] <;> rfl)
      case q12 => exact fun _ _ _ h => h
      case w12 => rfl
      case y12 => (intro w hSw; (try dsimp only at hSw); go_simp; (try with_reducible rfl))
      try simp only [Act.put, List.setIfInBounds_toArray, List.set_cons_zero, List.set_cons_succ]
      refine wpAnyH_take (i := 13) (oi := ?o13) (v := ?v13) ?h13 (by kernel_rfl) (by kernel_rfl) (by kernel_rfl) ?q13 (Or.inl ⟨?w13, ?y13⟩) (by assumption) ?r13
      case h13 => (simp only [List.getElem?_toArray, List.getElem?_cons_succ, List.getElem?_cons_zero] <;> rfl)
      case q13 => exact fun _ _ _ h => h
      case w13 => rfl
      case y13 => (intro w hSw; (try dsimp only at hSw); go_simp; (try with_reducible rfl))
      try simp only [Act.put, List.setIfInBounds_toArray, List.set_cons_zero, List.set_cons_succ]
      refine wpAnyH_ready (rs := [14]) (by kernel_rfl) (by simp) ?_
      refine AllReadyH.cons (o := ?o14) ?h14 (fun K hK => ?_) AllReadyH.nil
      case h14 => (simp only [List.getElem?_toArray, List.getElem?_cons_succ, List.getElem?_cons_zero] <;> rfl)
      go_simp
      refine (works_calls _).mono ?_
      rintro e w' ⟨rfl, rfl⟩
      refine hK.out _ _ ?s14 (fun hHeld => ?_)
      case s14 => rfl
      clear hK K
      try simp only [Act.put, List.setIfInBounds_toArray, List.set_cons_zero, List.set_cons_succ]
      refine wpAnyH_take (i := 15) (oi := ?o15) (v := ?v15) ?h15 (by kernel_rfl) (by kernel_rfl) (by kernel_rfl) ?q15 (Or.inl ⟨?w15, ?y15⟩) (by assumption) ?r15
      case h15 => (simp only [List.getElem?_toArray, List.getElem?_cons_succ, List.getElem?_cons_zero] <;> rfl)
      case q15 => exact fun _ _ _ h => h
      case w15 => rfl
      case y15 => (intro w hSw; (try dsimp only at hSw); go_simp; (try with_reducible rfl))
      try simp only [Act.put, List.setIfInBounds_toArray, List.set_cons_zero, List.set_cons_succ]
      refine wpAnyH_take (i := 16) (oi := ?o16) (v := ?v16) ?h16 (by kernel_rfl) (by kernel_rfl) (by kernel_rfl) ?q16 (Or.inl ⟨?w16, ?y16⟩) (by assumption) ?r16
      case h16 => (simp only [List.getElem?_toArray, List.getElem?_cons_succ, List.getElem?_cons_zero] <;> rfl)
      case q16 => exact fun _ _ _ h => h
      case w16 => rfl
      case y16 => (intro w hSw; (try dsimp only at hSw); go_simp; (try with_reducible rfl))
      try simp only [Act.put, List.setIfInBounds_toArray, List.set_cons_zero, List.set_cons_succ]
      refine wpAnyH_done (by kernel_rfl) ?_ _
      go_wp2_with fail
      go_ret
      exact ⟨rfl, HB6.out⟩
end Go.Proofs.Ytbogknjgjbhagaa
