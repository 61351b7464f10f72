/- The package's bytes of an attribute. -/
import Derived.Test.YtbogknjgjbhagaaAtt4
import Derived.Laws.CopyOwn
import Derived.Test.YtbogknjgjbhagaaPar7
namespace Go.Proofs.Ytbogknjgjbhagaa
open Go.RowKit
set_option linter.unusedSimpArgs false

set_option maxHeartbeats 1000000 in
set_option maxRecDepth 100000 in
theorem put16_calls (base g N cap o c : Nat) (xs : List Value) (v : Int) (w : World) (hv : 0 ≤ v ∧ v < 65536) (hown : w.ownsRow base 5 1 (.slice (some ⟨g, 0, none⟩) N cap) N xs) (hN : o + 2 ≤ N) :
    Calls Try.prog 94 #[.agg #[], .slice (some ⟨g, o, none⟩) 2 c, .int .u16 v] w fun e w' => e = .returned (.tuple #[]) ∧ w'.ownsRow base 5 1 (.slice (some ⟨g, 0, none⟩) N cap) N (putB xs o v 2) ∧ w.grownBy w' (some g) := by
  have hl : xs.length = N := by simpa using hown.1
  obtain ⟨u, hu⟩ : ∃ u, w.cell? ⟨g, o + 1, none⟩ = some u := by
    rw [hown.cellAt _ (by omega)]; exact ⟨_, List.getElem?_eq_getElem (by omega)⟩
  have hlt := World.block_lt_of_cell? w _ hu
  have wv : IntKind.u64.wrap v = v := IntWalk.u64_in _ (by omega)
  have HO := Lib.hid hown
  clear hown
  go_enter Try.func94, Try.ntmps94
  go_wp2_with fail
  refine (putLE_calls base g N cap o 2 c 0 2 0 2 xs v _ (by omega) (HO.out.alloc _) (by decide) (by decide) (by omega) (by decide) rfl rfl).mono ?_
  rintro e w' ⟨rfl, ho, hg⟩
  have HO2 := Lib.hid ho
  have HG := Lib.hid (grown_trans (World.grownBy_alloc w _ (some g)) hg)
  clear ho hg
  go_wp2_with fail
  go_end0
  exact ⟨rfl, HO2.out, HG.out⟩

theorem own_full {w : World} {base g q : Nat} {xs : List Value} (h : w.ownsRow base 5 1 (.slice (some ⟨g, 0, none⟩) q q) q xs) : w.heap[g]? = some (.cells xs.toArray 5 (0, 0)) := by
  obtain ⟨h1, h2⟩ := h
  rcases h2 with ⟨e, -⟩ | ⟨g', cap, cur, e, hb, hg, hnc, hcm, hcs, hxs⟩
  · cases e
  · injection e with e1 e2 e3
    injection e1 with e1
    injection e1 with e1
    subst e1 e3
    rw [hg]
    have : cur.toList = xs := by rw [← hxs, List.take_of_length_le (by simp; omega)]
    rw [← this]
theorem own_of_full {w : World} {base g q : Nat} {xs : List Value} (h : w.heap[g]? = some (.cells xs.toArray 5 (0, 0))) (hl : xs.length = q) (hb : base ≤ g) (hq : q ≤ maxLen) : w.ownsRow base 5 1 (.slice (some ⟨g, 0, none⟩) q q) q xs :=
  ⟨by simpa using hl, .inr ⟨g, q, xs.toArray, rfl, hb, h, Nat.le_refl _, hq, by simpa using hl, by simp [List.take_of_length_le (Nat.le_of_eq hl)]⟩⟩

/-- Four noughts, some bytes, noughts to the end. -/
def mid (q : Nat) (b : List Int) : List Int := List.replicate 4 0 ++ (b ++ List.replicate (q - 4 - b.length) 0)
theorem mid_length (q : Nat) (b : List Int) (h : 4 + b.length ≤ q) : (mid q b).length = q := by simp [mid]; omega
theorem mid_splice (q : Nat) (b c : List Int) (h : 4 + b.length + c.length ≤ q) : splice (bytesC (mid q b)) (4 + b.length) (bytesC c) = bytesC (mid q (b ++ c)) := by
  have e1 : (mid q b).take (4 + b.length) = List.replicate 4 0 ++ b := by
    rw [mid, ← List.append_assoc, List.take_left' (by simp; omega)]
  have e2 : (mid q b).drop (4 + b.length + c.length) = List.replicate (q - 4 - (b ++ c).length) 0 := by
    rw [mid, ← List.append_assoc, List.drop_append, List.drop_eq_nil_of_le (by simp; omega), List.drop_replicate]
    simp
    omega
  unfold splice bytesC
  rw [← List.map_take, List.length_map, ← List.map_drop, e1, e2, ← List.map_append, ← List.map_append]
  simp [mid]
theorem mid_put (q : Nat) (b : List Int) (v t : Int) : putB (putB (bytesC (mid q b)) 0 v 2) 2 t 2 = bytesC (lowB v 2 ++ lowB t 2 ++ (b ++ List.replicate (q - 4 - b.length) 0)) := by
  simp [putB, List.range_succ, mid, bytesC, lowB, List.replicate]

theorem fin_eq (t : Int) (d : List Int) (ks : List Tree) (b : List Int) (L : Int) (q : Nat) (hb : b = d ++ attrsB ks) (hL : L = ((b.length + 4 : Nat) : Int)) (hq : q = (attrB (.node t d ks)).length) :
    bytesC (lowB L 2 ++ lowB t 2 ++ (b ++ List.replicate (q - 4 - b.length) 0)) = bytesC (attrB (.node t d ks)) := by
  have h1 := attrB_len t d ks
  subst hb
  congr 1
  rw [attrB, pad, hL, List.append_assoc (lowB _ 2 ++ lowB t 2)]
  congr 2
  congr 1
  simp only [List.length_append, lowB_length, padN] at h1 hq ⊢
  omega

def SerCalls (T : Tree) : Prop := ∀ (w : World) (F : Nat → Prop) (p : Nat), RAt w F p T → (∀ g, F g → g < w.heap.size) → Good T → cost T ≤ 4000 →
  Calls Try.prog 61 #[.pointer (some ⟨p, 0, none⟩)] w fun e w' => ∃ v, e = .returned v ∧ w'.ownsRow w.heap.size 5 1 v (attrB T).length (bytesC (attrB T)) ∧ Below w.heap.size w w'

theorem mid_zero (q : Nat) (h : 4 ≤ q) : List.replicate q (Value.int .u8 0) = bytesC (mid q []) := by
  simp [mid, bytesC]
  rw [← List.replicate_succ, ← List.replicate_succ, ← List.replicate_succ, ← List.replicate_succ]
  congr 1; omega

/-- A copy whose run is known, in a region of open order. -/
theorem wp_copy_any {P : Program} {o : Oper} {a : Act} {w : World} {K : Act → World → Prop} {Q : Exit → Act → World → Prop} (s x : Operand) (t : TypeId) {v y v' : Value} {w' : World}
    (ho : o.op = .call { callee := .builtin .copy, args := #[s, x], argTypes := #[t, t] }) (hs : a.eval s = v) (hx : a.eval x = y)
    (hr : (Builtin.copy_ #[t, t] o.type #[v, y]).run P w = .ok v' w') (h : K (a.put o.dst v') w') : o.wp P a w K Q := by
  unfold Oper.wp execOp
  simp only [ho, resolve, invoke, builtin, Sem.run_bind, Sem.run_pure, Result.andThen_ok, List.map_toArray, List.map_cons, List.map_nil, hs, hx, hr]
  exact h
theorem wpList_copy_any {P : Program} {o : Oper} {ops : Array Oper} {rest : List Oper} {a : Act} {w : World} {Q : Exit → Act → World → Prop} (hgd : o.guard = none) (s x : Operand) (t : TypeId) {v y v' : Value} {w' : World}
    (ho : o.op = .call { callee := .builtin .copy, args := #[s, x], argTypes := #[t, t] }) (hs : a.eval s = v) (hx : a.eval x = y)
    (hr : (Builtin.copy_ #[t, t] o.type #[v, y]).run P w = .ok v' w') (h : wpList P ops Q rest (a.put o.dst v') w') : wpList P ops Q (o :: rest) a w :=
  wpList_plain hgd fun _ hK => wp_copy_any s x t ho hs hx hr (hK _ _ h)

/-- Bytes copied into a block of one's own. -/
theorem copy_into (base g q off : Nat) (X : List Int) (D : Option Addr) (dl dc : Nat) (A : Option Addr) (c : Nat) (d : List Int) (w : World) (hg : w.heap[g]? = some (.cells (bytesC X).toArray 5 (0, 0))) (hX : X.length = q) (hfit : off + d.length ≤ q) (hdl : d.length ≤ dl)
    (hD : d ≠ [] → D = some ⟨g, off, none⟩) (hA : Rd w A (bytesC d)) (hbase : base ≤ g) :
    ∃ v' w', (Builtin.copy_ #[31, 31] 3 #[.slice D dl dc, .slice A d.length c]).run Try.prog w = .ok v' w' ∧ w'.heap[g]? = some (.cells (splice (bytesC X) off (bytesC d)).toArray 5 (0, 0)) ∧ Below base w w' ∧ w.grownBy w' (some g) ∧ w'.heap.size = w.heap.size := by
  have hsz : (Try.prog.info? 5).map (·.size) = some 1 := by kernel_rfl
  by_cases h0 : d = []
  · subst h0
    refine ⟨_, w, run_copy_none (P := Try.prog) w 31 31 3 5 D A dl dc 0 c Try.underlying31 hsz (by simp), ?_, Below.refl _ _, World.grownBy.refl _ _, rfl⟩
    have e : splice (bytesC X) off (bytesC []) = bytesC X := by simp [splice, bytesC]
    rw [e]; exact hg
  · obtain rfl := hD h0
    obtain ⟨b, o, rfl, hc⟩ := hA (bytesC_ne (List.length_pos_iff.2 h0))
    have hlen : (bytesC X).length = q := by rw [bytesC_length]; exact hX
    have hr := run_copy_row (P := Try.prog) w 31 31 3 5 g off dl dc ⟨b, o, none⟩ d.length c (bytesC X).toArray 5 (bytesC d) Try.underlying31 hsz hg (by rw [bytesC_length]; exact (Nat.min_eq_left hdl).symm) (fun j v hj => by rw [Addr.add_lit]; exact hc j v hj) (by simp; omega) (bytesC_one _)
    refine ⟨_, _, hr, ?_, below_setRow (Below.refl _ _) hbase _, ?_, by simp [World.setRow]⟩
    · have h := setRow_heap w g _ (splice (bytesC X) off (bytesC d)).toArray 5 _ hg
      simpa [splice] using h
    · exact ⟨rfl, rfl, rfl, by simp [World.setRow], fun k hk hne => setRow_other w g k _ (fun e => hne (by rw [e]))⟩

set_option maxHeartbeats 4000000 in
set_option maxRecDepth 100000 in
theorem ser_step (t : Int) (d : List Int) (ks : List Tree) (ih : ∀ x ∈ ks, SerCalls x) : SerCalls (.node t d ks) := by
  intro w F p hT hF hgood hcost
  obtain ⟨la1, la2, la3⟩ := lenT_align (.node t d ks) hcost
  obtain ⟨A, k1, A', k2, hFp, hp, hby, hA, hk2, hks⟩ := RAt.shape hT
  have hg2 := hgood
  simp only [Good] at hg2
  have hac := attrsB_cost ks
  have hc2 := hcost
  rw [cost] at hc2
  obtain ⟨q, hq⟩ : ∃ q, q = (attrB (.node t d ks)).length := ⟨_, rfl⟩
  rw [← hq] at la1
  have hal := attrB_len t d ks
  rw [← hq] at hal
  obtain ⟨L, hL⟩ : ∃ L, L = lenT (.node t d ks) := ⟨_, rfl⟩
  rw [← hL] at la1 la2 la3
  have hL2 : L = (d.length : Int) + (attrsB ks).length + 4 := by rw [hL]; simp only [lenT, List.length_append]; push_cast; omega
  have hdq : d.length + (attrsB ks).length + 4 ≤ q := by omega
  have hL4 : 4 ≤ L := by omega
  have HL2 := Lib.hid hL2
  have HAL := Lib.hid hal
  have HA0 := Lib.hid hA
  clear hL2 hal
  have hlp := hF p hFp
  obtain ⟨i0, hi, hz0, hz1, hz2⟩ := info_parts Try.info5
  have HIH := Lib.hid ih
  have HKS := Lib.hid hks
  have HF := Lib.hid hF
  have HGS := Lib.hid hg2.2.2.2
  have HDK := Lib.hid hg2.2.2.1
  have HBY := Lib.hid hby
  have HP := Lib.hid hp
  have HQ := Lib.hid hq
  have HLL := Lib.hid hL
  have HLA := Lib.hid la1
  have HT := Lib.hid hT
  have HGOOD := Lib.hid hgood
  have HCOST := Lib.hid hcost
  have ht0 := hg2.1
  have ht1 := hg2.2.1
  clear ih hks hF hgood hg2 hT hby hA hcost hq hL la1
  go_enter Try.func61, Try.ntmps61
  go_wp2_with fail
  refine (native_calls _).mono ?_
  rintro e w1 ⟨rfl, hb1⟩
  have hsz1 := hb1.size
  have HB1 := Lib.hid hb1
  clear hb1
  go_wp2_with fail
  have B2 : Below w.heap.size w (w1.alloc (.cells #[] 118)) := HB1.out.alloc hsz1 _
  refine (len_calls (.node t d ks) _ F p (RAt.keep (fun g hg => ⟨B2.block g (HF.out g hg), hg⟩) _ _ HT.out) (fun g hg => by have h1 := HF.out g hg; have h2 := B2.size; omega) HGOOD.out HCOST.out).mono ?_
  rintro e w2 ⟨rfl, rfl⟩
  rw [← HLL.out]
  obtain ⟨W2, hW2⟩ : ∃ W2, W2 = w1.alloc (.cells #[] 118) := ⟨_, rfl⟩
  rw [← hW2] at B2
  rw [← hW2]
  have HB2 := Lib.hid B2
  have hsz2 := B2.size
  have c1w : w.cell? ⟨p, 2, none⟩ = some (.slice A d.length k1) := (cell_of_row _ _ 2 _ _ (0, 0) HP.out).trans rfl
  have c2w : w.cell? ⟨p, 3, none⟩ = some (.slice A' ks.length k2) := (cell_of_row _ _ 3 _ _ (0, 0) HP.out).trans rfl
  have hpc1 : w.cell? ⟨p, 1, none⟩ = some (.int .u16 t) := (cell_of_row _ _ 1 _ _ (0, 0) HP.out).trans rfl
  have hqq : 4 ≤ q ∧ q ≤ 4008 := by have := HLA.out; omega
  have hq4 : (0 : Int) ≤ (q : Int) := by omega
  clear hW2 B2
  go_wp2_with (first
    | (go_at_call 89; refine (align_calls _ _ (by omega)).mono ?_; rintro e w' ⟨rfl, rfl⟩; rw [HLA.out])
    | (at_make; go_must (refine wpList_make_full _ rfl _ _ 31 rfl W2.heap.size 5 i0 (.int .u8 0) 1 Try.underlying31 hi hz0 hz1 .i64 .i64 _ _ q rfl rfl (by omega) (by omega) (by rw [hz2]; omega) (by unfold maxLen; omega) (Nat.le_refl _) ?_)))
  intro w3 hown hgrow
  rw [toList_madeCells_one, mid_zero q hqq.1] at hown
  have hgx := own_full hown
  have hsz3 := hgrow.size
  have hb3 : Below w.heap.size w w3 := HB2.out.grown hgrow hsz2 (fun k hk => by cases hk)
  obtain ⟨g, hg⟩ : ∃ g, g = W2.heap.size := ⟨_, rfl⟩
  rw [← hg] at hgx
  rw [← hg]
  have hgw : w.heap.size ≤ g := by omega
  have hgl : g < w3.heap.size := lt_of_block hgx
  have HGX0 := Lib.hid hgx
  have HB3 := Lib.hid hb3
  have c13 := cells_one hb3 c1w
  have c23 := cells_one hb3 c2w
  clear hown hgrow hgx hb3 hg
  cases A with
  | none =>
    obtain rfl := HA0.out rfl
    have HGX := Lib.hid (show w3.heap[g]? = some (.cells (bytesC (mid q ([] : List Int))).toArray 5 (0, 0)) from HGX0.out)
    have HBW := HB3
    by_cases hks0 : ks = []
    · subst hks0
      have OWN : Hid (w3.ownsRow w.heap.size 5 1 (.slice (some ⟨g, 0, none⟩) q q) q (bytesC (mid q ([] : List Int)))) := own_of_full HGX.out (by rw [bytesC_length, mid_length _ _ (by omega)]) hgw (by unfold maxLen; omega)
      have FINL := Lib.hid (fin_eq t _ _ ([] : List Int) L q (by simp [attrsB]) (by rw [HL2.out]; simp [attrsB]) HQ.out)
      have wl16 : IntKind.u16.wrap L = L := IntWalk.u16_in _ (by omega)
      have hLne : (L != 0) = true := by rw [bne_iff_ne]; omega
      have zq1 : (2 : Int) ≤ (q : Int) := by omega
      have zq2 : ¬ q = 2 := by omega
      have zq3 : (4 : Int) ≤ (q : Int) := by omega
      go_wp2_with fail
      refine wp_region_held_drew (S := fun _ => True) (by kernel_rfl) trivial (fun hHeld => ?_)
      refine wpAnyH_take (i := 0) (oi := ?o0Nk) (v := ?v0Nk) ?h0Nk (by kernel_rfl) (by kernel_rfl) (by kernel_rfl) ?q0Nk (Or.inl ⟨?w0Nk, ?y0Nk⟩) (by assumption) ?r0Nk
      case h0Nk => (simp only [List.getElem?_toArray, List.getElem?_cons_succ, List.getElem?_cons_zero] <;> rfl)
      case q0Nk => exact fun _ _ _ h => h
      case w0Nk => rfl
      case y0Nk => (intro w hSw; (try dsimp only at hSw); go_simp; (try with_reducible rfl))
      try simp only [Act.put, List.setIfInBounds_toArray, List.set_cons_zero, List.set_cons_succ]
      refine wpAnyH_take (i := 1) (oi := ?o1Nk) (v := ?v1Nk) ?h1Nk (by kernel_rfl) (by kernel_rfl) (by kernel_rfl) ?q1Nk (Or.inl ⟨?w1Nk, ?y1Nk⟩) (by assumption) ?r1Nk
      case h1Nk => (simp only [List.getElem?_toArray, List.getElem?_cons_succ, List.getElem?_cons_zero] <;> rfl)
      case q1Nk => exact fun _ _ _ h => h
      case w1Nk => rfl
      case y1Nk => (intro w hSw; (try dsimp only at hSw); go_simp; (try with_reducible rfl))
      try simp only [Act.put, List.setIfInBounds_toArray, List.set_cons_zero, List.set_cons_succ]
      refine wpAnyH_take (i := 2) (oi := ?o2Nk) (v := ?v2Nk) ?h2Nk (by kernel_rfl) (by kernel_rfl) (by kernel_rfl) ?q2Nk (Or.inl ⟨?w2Nk, ?y2Nk⟩) (by assumption) ?r2Nk
      case h2Nk => (simp only [List.getElem?_toArray, List.getElem?_cons_succ, List.getElem?_cons_zero] <;> rfl)
      case q2Nk => exact fun _ _ _ h => h
      case w2Nk => rfl
      case y2Nk => (intro w hSw; (try dsimp only at hSw); go_simp; (try with_reducible rfl))
      try simp only [Act.put, List.setIfInBounds_toArray, List.set_cons_zero, List.set_cons_succ]
      refine wpAnyH_take (i := 3) (oi := ?o3Nk) (v := ?v3Nk) ?h3Nk (by kernel_rfl) (by kernel_rfl) (by kernel_rfl) ?q3Nk (Or.inl ⟨?w3Nk, ?y3Nk⟩) (by assumption) ?r3Nk
      case h3Nk => (simp only [List.getElem?_toArray, List.getElem?_cons_succ, List.getElem?_cons_zero] <;> rfl)
      case q3Nk => exact fun _ _ _ h => h
      case w3Nk => rfl
      case y3Nk => (intro w hSw; (try dsimp only at hSw); go_simp; (try with_reducible rfl))
      try simp only [Act.put, List.setIfInBounds_toArray, List.set_cons_zero, List.set_cons_succ]
      refine wpAnyH_ready (rs := [4]) (by kernel_rfl) (by simp) ?_
      refine AllReadyH.cons (o := ?o4Nk) ?h4Nk (fun K hK => ?_) AllReadyH.nil
      case h4Nk => (simp only [List.getElem?_toArray, List.getElem?_cons_succ, List.getElem?_cons_zero] <;> rfl)
      go_simp
      refine (put16_calls w.heap.size g q q 0 q _ L _ (by omega) (own_below OWN.out (Below.refl _ _).drew) (by omega)).mono ?_
      rintro e u1 ⟨rfl, ho1, hg1⟩
      have HO1 := Lib.hid ho1
      have HBU1 := Lib.hid (HBW.out.drew.grown hg1 (by have := HBW.out.size; simpa using this) (fun k hk => by injection hk with hk; omega))
      clear ho1 hg1
      refine hK.out _ _ ?s4Nk (fun hHeld => ?_)
      case s4Nk => trivial
      clear hK K
      try simp only [Act.put, List.setIfInBounds_toArray, List.set_cons_zero, List.set_cons_succ]
      refine wpAnyH_done (by kernel_rfl) ?_ _
      clear hHeld
      have cp2 := cells_one HBU1.out hpc1
      go_wp2_with fail
      refine wp_region_held_drew (S := fun w' => w'.cell? ⟨p, 1, none⟩ = some (.int .u16 t)) (by kernel_rfl) cp2 (fun hHeld => ?_)
      refine wpAnyH_take (i := 0) (oi := ?o0Nkx) (v := ?v0Nkx) ?h0Nkx (by kernel_rfl) (by kernel_rfl) (by kernel_rfl) ?q0Nkx (Or.inl ⟨?w0Nkx, ?y0Nkx⟩) (by assumption) ?r0Nkx
      case h0Nkx => (simp only [List.getElem?_toArray, List.getElem?_cons_succ, List.getElem?_cons_zero] <;> rfl)
      case q0Nkx => exact fun _ _ _ h => h
      case w0Nkx => rfl
      case y0Nkx => (intro w hSw; (try dsimp only at hSw); go_simp; (try with_reducible rfl))
      try simp only [Act.put, List.setIfInBounds_toArray, List.set_cons_zero, List.set_cons_succ]
      refine wpAnyH_take (i := 1) (oi := ?o1Nkx) (v := ?v1Nkx) ?h1Nkx (by kernel_rfl) (by kernel_rfl) (by kernel_rfl) ?q1Nkx (Or.inl ⟨?w1Nkx, ?y1Nkx⟩) (by assumption) ?r1Nkx
      case h1Nkx => (simp only [List.getElem?_toArray, List.getElem?_cons_succ, List.getElem?_cons_zero] <;> rfl)
      case q1Nkx => exact fun _ _ _ h => h
      case w1Nkx => rfl
      case y1Nkx => (intro w hSw; (try dsimp only at hSw); go_simp; (try with_reducible rfl))
      try simp only [Act.put, List.setIfInBounds_toArray, List.set_cons_zero, List.set_cons_succ]
      refine wpAnyH_take (i := 2) (oi := ?o2Nkx) (v := ?v2Nkx) ?h2Nkx (by kernel_rfl) (by kernel_rfl) (by kernel_rfl) ?q2Nkx (Or.inl ⟨?w2Nkx, ?y2Nkx⟩) (by assumption) ?r2Nkx
      case h2Nkx => (simp only [List.getElem?_toArray, List.getElem?_cons_succ, List.getElem?_cons_zero] <;> rfl)
      case q2Nkx => exact fun _ _ _ h => h
      case w2Nkx => rfl
      case y2Nkx => (intro w hSw; (try dsimp only at hSw); go_simp; (try with_reducible rfl))
      try simp only [Act.put, List.setIfInBounds_toArray, List.set_cons_zero, List.set_cons_succ]
      refine wpAnyH_take (i := 3) (oi := ?o3Nkx) (v := ?v3Nkx) ?h3Nkx (by kernel_rfl) (by kernel_rfl) (by kernel_rfl) ?q3Nkx (Or.inl ⟨?w3Nkx, ?y3Nkx⟩) (by assumption) ?r3Nkx
      case h3Nkx => (simp only [List.getElem?_toArray, List.getElem?_cons_succ, List.getElem?_cons_zero] <;> rfl)
      case q3Nkx => exact fun _ _ _ h => h
      case w3Nkx => rfl
      case y3Nkx => (intro w hSw; (try dsimp only at hSw); go_simp; (try with_reducible rfl))
      try simp only [Act.put, List.setIfInBounds_toArray, List.set_cons_zero, List.set_cons_succ]
      refine wpAnyH_take (i := 4) (oi := ?o4Nkx) (v := ?v4Nkx) ?h4Nkx (by kernel_rfl) (by kernel_rfl) (by kernel_rfl) ?q4Nkx (Or.inl ⟨?w4Nkx, ?y4Nkx⟩) (by assumption) ?r4Nkx
      case h4Nkx => (simp only [List.getElem?_toArray, List.getElem?_cons_succ, List.getElem?_cons_zero] <;> rfl)
      case q4Nkx => exact fun _ _ _ h => h
      case w4Nkx => rfl
      case y4Nkx => (intro w hSw; (try dsimp only at hSw); go_simp; (try with_reducible rfl))
      try simp only [Act.put, List.setIfInBounds_toArray, List.set_cons_zero, List.set_cons_succ]
      refine wpAnyH_take (i := 5) (oi := ?o5Nkx) (v := ?v5Nkx) ?h5Nkx (by kernel_rfl) (by kernel_rfl) (by kernel_rfl) ?q5Nkx (Or.inl ⟨?w5Nkx, ?y5Nkx⟩) (by assumption) ?r5Nkx
      case h5Nkx => (simp only [List.getElem?_toArray, List.getElem?_cons_succ, List.getElem?_cons_zero] <;> rfl)
      case q5Nkx => exact fun _ _ _ h => h
      case w5Nkx => rfl
      case y5Nkx => (intro w hSw; (try dsimp only at hSw); go_simp; (try with_reducible rfl))
      try simp only [Act.put, List.setIfInBounds_toArray, List.set_cons_zero, List.set_cons_succ]
      refine wpAnyH_take (i := 6) (oi := ?o6Nkx) (v := ?v6Nkx) ?h6Nkx (by kernel_rfl) (by kernel_rfl) (by kernel_rfl) ?q6Nkx (Or.inl ⟨?w6Nkx, ?y6Nkx⟩) (by assumption) ?r6Nkx
      case h6Nkx => (simp only [List.getElem?_toArray, List.getElem?_cons_succ, List.getElem?_cons_zero] <;> rfl)
      case q6Nkx => exact fun _ _ _ h => h
      case w6Nkx => rfl
      case y6Nkx => (intro w hSw; (try dsimp only at hSw); go_simp; (try with_reducible rfl))
      try simp only [Act.put, List.setIfInBounds_toArray, List.set_cons_zero, List.set_cons_succ]
      refine wpAnyH_take (i := 7) (oi := ?o7Nkx) (v := ?v7Nkx) ?h7Nkx (by kernel_rfl) (by kernel_rfl) (by kernel_rfl) ?q7Nkx (Or.inl ⟨?w7Nkx, ?y7Nkx⟩) (by assumption) ?r7Nkx
      case h7Nkx => (simp only [List.getElem?_toArray, List.getElem?_cons_succ, List.getElem?_cons_zero] <;> rfl)
      case q7Nkx => exact fun _ _ _ h => h
      case w7Nkx => rfl
      case y7Nkx => (intro w hSw; (try dsimp only at hSw); go_simp; (try with_reducible rfl))
      try simp only [Act.put, List.setIfInBounds_toArray, List.set_cons_zero, List.set_cons_succ]
      refine wpAnyH_ready (rs := [8]) (by kernel_rfl) (by simp) ?_
      refine AllReadyH.cons (o := ?o8Nkx) ?h8Nkx (fun K hK => ?_) AllReadyH.nil
      case h8Nkx => (simp only [List.getElem?_toArray, List.getElem?_cons_succ, List.getElem?_cons_zero] <;> rfl)
      go_simp
      refine (put16_calls w.heap.size g q q 2 (q - 2) _ t _ (by omega) (own_below HO1.out (Below.refl _ _).drew) (by omega)).mono ?_
      rintro e u2 ⟨rfl, ho2, hg2⟩
      have HO2 := Lib.hid ho2
      have HBU2 := Lib.hid (HBU1.out.drew.grown hg2 (by have := HBU1.out.size; simpa using this) (fun k hk => by injection hk with hk; omega))
      clear ho2 hg2
      refine hK.out _ _ ?s8Nkx (fun hHeld => ?_)
      case s8Nkx => exact cells_one HBU2.out hpc1
      clear hK K
      try simp only [Act.put, List.setIfInBounds_toArray, List.set_cons_zero, List.set_cons_succ]
      refine wpAnyH_done (by kernel_rfl) ?_ _
      clear hHeld
      go_wp2_with fail
      go_ret
      have h := HO2.out
      rw [mid_put, FINL.out] at h
      refine ⟨_, rfl, ?_, HBU2.out⟩
      rw [← HQ.out]
      exact h
    · obtain ⟨bb, o, rfl, hFb, hkk⟩ := HKS.out hks0
      have HKK := Lib.hid hkk
      have hpos : 0 < ks.length := List.length_pos_iff.2 hks0
      have hml : ks.length ≤ 4000 := by
        have : ∀ l : List Tree, l.length ≤ costs l := by
          intro l
          induction l with
          | nil => simp
          | cons x r ih2 => cases x; simp [costs, cost]; omega
        have := this ks
        omega
      have hGB := HGX
      have hBB := HBW
      clear hkk
      go_wp2_with fail
      go_loopw [6, 49] (fun s i wr => ∃ k : Nat, k ≤ ks.length ∧ i = .int .i64 (k : Nat) ∧ s = .int .i64 ((4 + (attrsB (ks.take k)).length : Nat) : Int) ∧ Hid (wr.heap[g]? = some (.cells (bytesC (mid q (attrsB (ks.take k)))).toArray 5 (0, 0))) ∧ Hid (Below w.heap.size w wr)) (fun _ i _ => ks.length - (intOf i).toNat)
      case atStart => exact ⟨0, Nat.zero_le _, rfl, by simp [attrsB], by simpa [attrsB] using hGB, hBB⟩
      case round =>
        obtain ⟨k, hk, rfl, rfl, HGX, HBW⟩ := hrel
        clear hGB hBB
        have hszr := HBW.out.size
        have hglr := lt_of_block HGX.out
        by_cases hlt : k < ks.length
        · obtain ⟨g1, e1w, hkid⟩ := KsAt.get ks bb o k hlt HKK.out
          have e1 := cells_one HBW.out e1w
          have hle2 := attrsB_take_le ks (k + 1)
          have hcm := cost_mem hlt
          have hsn : attrsB (ks.take (k + 1)) = attrsB (ks.take k) ++ attrB ks[k] := by
            rw [List.take_succ_eq_append_getElem hlt, attrsB_append]; simp [attrsB]
          have hgk := Goods.mem hlt HGS.out
          obtain ⟨T1, hT1⟩ : ∃ T1, T1 = ks[k] := ⟨_, rfl⟩
          have hin : T1 ∈ ks := by rw [hT1]; exact List.getElem_mem hlt
          rw [← hT1] at hkid hcm hsn hgk
          have sc := HIH.out T1 hin wr F g1 (RAt.keep (fun g' hg' => ⟨HBW.out.block g' (HF.out g' hg'), hg'⟩) _ _ hkid) (fun g' hg' => by have := HF.out g' hg'; omega) hgk (by omega)
          rw [hsn, List.length_append] at hle2
          have hm1 : (attrB T1).length % 4 = 0 ∧ 0 < (attrB T1).length := by
            obtain ⟨t', d', k'⟩ := T1
            rw [attrB_len]; omega
          have SC := Lib.hid sc
          have HSN := Lib.hid hsn
          obtain ⟨X0, hX0⟩ : ∃ X0, X0 = attrsB (ks.take k) := ⟨_, rfl⟩
          rw [← hX0] at hle2 HGX HSN
          rw [← hX0]
          obtain ⟨n0, hn0⟩ : ∃ n0, n0 = X0.length := ⟨_, rfl⟩
          rw [← hn0] at hle2
          rw [← hn0]
          obtain ⟨q1, hq1⟩ : ∃ q1, q1 = (attrB T1).length := ⟨_, rfl⟩
          rw [← hq1] at hle2 hm1 SC
          have HQ1 := Lib.hid hq1
          have HN0 := Lib.hid hn0
          clear hT1 hin hkid hgk sc hsn hX0 hn0 hq1 e1w
          have hmid : (mid q X0).length = q := mid_length _ _ (by rw [← HN0.out]; omega)
          have wn : IntKind.i64.wrap (4 + (n0 : Int)) = 4 + (n0 : Int) := IntWalk.i64_in _ (by omega)
          have HMD := Lib.hid hmid
          clear hmid
          go_wp2_with fail
          refine SC.out.mono ?_
          rintro e w5 ⟨v5, rfl, hown5, hb5⟩
          obtain ⟨A5, c5, rfl, -, hr5, -⟩ := Rd.of_own hown5
          have hgx5 := (hb5.block g hglr).trans HGX.out
          have hb5w := HBW.out.trans (hb5.mono hszr)
          obtain ⟨vc, w6, hrun, hgx6, hb6, hg6, hs6⟩ := copy_into w.heap.size g q (4 + n0) (mid q X0) (some ⟨g, 4 + n0, none⟩) (q - (4 + n0)) (q - (4 + n0)) A5 c5 (attrB T1) w5 hgx5 HMD.out (by rw [← HQ1.out]; omega) (by rw [← HQ1.out]; omega) (fun _ => rfl) hr5 hgw
          rw [← HQ1.out] at hrun
          rw [HN0.out, mid_splice _ _ _ (by rw [← HN0.out, ← HQ1.out]; omega), ← HSN.out] at hgx6
          have HGX6 := Lib.hid hgx6
          have HB6 := Lib.hid (hb5w.trans hb6)
          clear hown5 hb5 hr5 hgx5 hb5w hgx6 hb6 hg6
          have zz : (4 : Int) + (n0 : Int) ≤ (q : Int) := by omega
          have zz2 : ((4 : Int) + (n0 : Int)).toNat = 4 + n0 := by omega
          have zz3 : ¬ q = 4 + n0 := by omega
          have zz4 : ((q1 : Int) + 3) / 4 * 4 = (q1 : Int) := by omega
          have wn2 : IntKind.i64.wrap (4 + (n0 : Int) + (q1 : Int)) = 4 + (n0 : Int) + (q1 : Int) := IntWalk.i64_in _ (by omega)
          go_wp2_with (first
            | (go_at_call 89; refine (align_calls _ _ (by omega)).mono ?_; rintro e w' ⟨rfl, rfl⟩; rw [zz4])
            | (at_builtin; refine wpList_copy_any rfl _ _ 31 rfl rfl rfl hrun ?_))
          go_roundw
          case rel =>
            refine ⟨k + 1, by omega, by go_num, ?_, HGX6, HB6⟩
            rw [HSN.out, List.length_append, ← HN0.out, ← HQ1.out]; go_num
          case measure => simp [intOf]; omega
        · have hkk2 : k = ks.length := by omega
          subst hkk2
          have e0 : attrsB (ks.take ks.length) = attrsB ks := by rw [List.take_length]
          rw [e0] at HGX
          rw [e0]
          clear e0
          have OWN : Hid (wr.ownsRow w.heap.size 5 1 (.slice (some ⟨g, 0, none⟩) q q) q (bytesC (mid q (attrsB ks)))) := own_of_full HGX.out (by rw [bytesC_length, mid_length _ _ (by omega)]) hgw (by unfold maxLen; omega)
          have FINL := Lib.hid (fin_eq t _ _ (attrsB ks) L q (by simp) (by rw [HL2.out]; simp) HQ.out)
          have wl16 : IntKind.u16.wrap L = L := IntWalk.u16_in _ (by omega)
          have hLne : (L != 0) = true := by rw [bne_iff_ne]; omega
          have zq1 : (2 : Int) ≤ (q : Int) := by omega
          have zq2 : ¬ q = 2 := by omega
          have zq3 : (4 : Int) ≤ (q : Int) := by omega
          go_wp2_with fail
          refine wp_region_held_drew (S := fun _ => True) (by kernel_rfl) trivial (fun hHeld => ?_)
          refine wpAnyH_take (i := 0) (oi := ?o0Nj) (v := ?v0Nj) ?h0Nj (by kernel_rfl) (by kernel_rfl) (by kernel_rfl) ?q0Nj (Or.inl ⟨?w0Nj, ?y0Nj⟩) (by assumption) ?r0Nj
          case h0Nj => (simp only [List.getElem?_toArray, List.getElem?_cons_succ, List.getElem?_cons_zero] <;> rfl)
          case q0Nj => exact fun _ _ _ h => h
          case w0Nj => rfl
          case y0Nj => (intro w hSw; (try dsimp only at hSw); go_simp; (try with_reducible rfl))
          try simp only [Act.put, List.setIfInBounds_toArray, List.set_cons_zero, List.set_cons_succ]
          refine wpAnyH_take (i := 1) (oi := ?o1Nj) (v := ?v1Nj) ?h1Nj (by kernel_rfl) (by kernel_rfl) (by kernel_rfl) ?q1Nj (Or.inl ⟨?w1Nj, ?y1Nj⟩) (by assumption) ?r1Nj
          case h1Nj => (simp only [List.getElem?_toArray, List.getElem?_cons_succ, List.getElem?_cons_zero] <;> rfl)
          case q1Nj => exact fun _ _ _ h => h
          case w1Nj => rfl
          case y1Nj => (intro w hSw; (try dsimp only at hSw); go_simp; (try with_reducible rfl))
          try simp only [Act.put, List.setIfInBounds_toArray, List.set_cons_zero, List.set_cons_succ]
          refine wpAnyH_take (i := 2) (oi := ?o2Nj) (v := ?v2Nj) ?h2Nj (by kernel_rfl) (by kernel_rfl) (by kernel_rfl) ?q2Nj (Or.inl ⟨?w2Nj, ?y2Nj⟩) (by assumption) ?r2Nj
          case h2Nj => (simp only [List.getElem?_toArray, List.getElem?_cons_succ, List.getElem?_cons_zero] <;> rfl)
          case q2Nj => exact fun _ _ _ h => h
          case w2Nj => rfl
          case y2Nj => (intro w hSw; (try dsimp only at hSw); go_simp; (try with_reducible rfl))
          try simp only [Act.put, List.setIfInBounds_toArray, List.set_cons_zero, List.set_cons_succ]
          refine wpAnyH_take (i := 3) (oi := ?o3Nj) (v := ?v3Nj) ?h3Nj (by kernel_rfl) (by kernel_rfl) (by kernel_rfl) ?q3Nj (Or.inl ⟨?w3Nj, ?y3Nj⟩) (by assumption) ?r3Nj
          case h3Nj => (simp only [List.getElem?_toArray, List.getElem?_cons_succ, List.getElem?_cons_zero] <;> rfl)
          case q3Nj => exact fun _ _ _ h => h
          case w3Nj => rfl
          case y3Nj => (intro w hSw; (try dsimp only at hSw); go_simp; (try with_reducible rfl))
          try simp only [Act.put, List.setIfInBounds_toArray, List.set_cons_zero, List.set_cons_succ]
          refine wpAnyH_ready (rs := [4]) (by kernel_rfl) (by simp) ?_
          refine AllReadyH.cons (o := ?o4Nj) ?h4Nj (fun K hK => ?_) AllReadyH.nil
          case h4Nj => (simp only [List.getElem?_toArray, List.getElem?_cons_succ, List.getElem?_cons_zero] <;> rfl)
          go_simp
          refine (put16_calls w.heap.size g q q 0 q _ L _ (by omega) (own_below OWN.out (Below.refl _ _).drew) (by omega)).mono ?_
          rintro e u1 ⟨rfl, ho1, hg1⟩
          have HO1 := Lib.hid ho1
          have HBU1 := Lib.hid (HBW.out.drew.grown hg1 (by have := HBW.out.size; simpa using this) (fun k hk => by injection hk with hk; omega))
          clear ho1 hg1
          refine hK.out _ _ ?s4Nj (fun hHeld => ?_)
          case s4Nj => trivial
          clear hK K
          try simp only [Act.put, List.setIfInBounds_toArray, List.set_cons_zero, List.set_cons_succ]
          refine wpAnyH_done (by kernel_rfl) ?_ _
          clear hHeld
          have cp2 := cells_one HBU1.out hpc1
          go_wp2_with fail
          refine wp_region_held_drew (S := fun w' => w'.cell? ⟨p, 1, none⟩ = some (.int .u16 t)) (by kernel_rfl) cp2 (fun hHeld => ?_)
          refine wpAnyH_take (i := 0) (oi := ?o0Njx) (v := ?v0Njx) ?h0Njx (by kernel_rfl) (by kernel_rfl) (by kernel_rfl) ?q0Njx (Or.inl ⟨?w0Njx, ?y0Njx⟩) (by assumption) ?r0Njx
          case h0Njx => (simp only [List.getElem?_toArray, List.getElem?_cons_succ, List.getElem?_cons_zero] <;> rfl)
          case q0Njx => exact fun _ _ _ h => h
          case w0Njx => rfl
          case y0Njx => (intro w hSw; (try dsimp only at hSw); go_simp; (try with_reducible rfl))
          try simp only [Act.put, List.setIfInBounds_toArray, List.set_cons_zero, List.set_cons_succ]
          refine wpAnyH_take (i := 1) (oi := ?o1Njx) (v := ?v1Njx) ?h1Njx (by kernel_rfl) (by kernel_rfl) (by kernel_rfl) ?q1Njx (Or.inl ⟨?w1Njx, ?y1Njx⟩) (by assumption) ?r1Njx
          case h1Njx => (simp only [List.getElem?_toArray, List.getElem?_cons_succ, List.getElem?_cons_zero] <;> rfl)
          case q1Njx => exact fun _ _ _ h => h
          case w1Njx => rfl
          case y1Njx => (intro w hSw; (try dsimp only at hSw); go_simp; (try with_reducible rfl))
          try simp only [Act.put, List.setIfInBounds_toArray, List.set_cons_zero, List.set_cons_succ]
          refine wpAnyH_take (i := 2) (oi := ?o2Njx) (v := ?v2Njx) ?h2Njx (by kernel_rfl) (by kernel_rfl) (by kernel_rfl) ?q2Njx (Or.inl ⟨?w2Njx, ?y2Njx⟩) (by assumption) ?r2Njx
          case h2Njx => (simp only [List.getElem?_toArray, List.getElem?_cons_succ, List.getElem?_cons_zero] <;> rfl)
          case q2Njx => exact fun _ _ _ h => h
          case w2Njx => rfl
          case y2Njx => (intro w hSw; (try dsimp only at hSw); go_simp; (try with_reducible rfl))
          try simp only [Act.put, List.setIfInBounds_toArray, List.set_cons_zero, List.set_cons_succ]
          refine wpAnyH_take (i := 3) (oi := ?o3Njx) (v := ?v3Njx) ?h3Njx (by kernel_rfl) (by kernel_rfl) (by kernel_rfl) ?q3Njx (Or.inl ⟨?w3Njx, ?y3Njx⟩) (by assumption) ?r3Njx
          case h3Njx => (simp only [List.getElem?_toArray, List.getElem?_cons_succ, List.getElem?_cons_zero] <;> rfl)
          case q3Njx => exact fun _ _ _ h => h
          case w3Njx => rfl
          case y3Njx => (intro w hSw; (try dsimp only at hSw); go_simp; (try with_reducible rfl))
          try simp only [Act.put, List.setIfInBounds_toArray, List.set_cons_zero, List.set_cons_succ]
          refine wpAnyH_take (i := 4) (oi := ?o4Njx) (v := ?v4Njx) ?h4Njx (by kernel_rfl) (by kernel_rfl) (by kernel_rfl) ?q4Njx (Or.inl ⟨?w4Njx, ?y4Njx⟩) (by assumption) ?r4Njx
          case h4Njx => (simp only [List.getElem?_toArray, List.getElem?_cons_succ, List.getElem?_cons_zero] <;> rfl)
          case q4Njx => exact fun _ _ _ h => h
          case w4Njx => rfl
          case y4Njx => (intro w hSw; (try dsimp only at hSw); go_simp; (try with_reducible rfl))
          try simp only [Act.put, List.setIfInBounds_toArray, List.set_cons_zero, List.set_cons_succ]
          refine wpAnyH_take (i := 5) (oi := ?o5Njx) (v := ?v5Njx) ?h5Njx (by kernel_rfl) (by kernel_rfl) (by kernel_rfl) ?q5Njx (Or.inl ⟨?w5Njx, ?y5Njx⟩) (by assumption) ?r5Njx
          case h5Njx => (simp only [List.getElem?_toArray, List.getElem?_cons_succ, List.getElem?_cons_zero] <;> rfl)
          case q5Njx => exact fun _ _ _ h => h
          case w5Njx => rfl
          case y5Njx => (intro w hSw; (try dsimp only at hSw); go_simp; (try with_reducible rfl))
          try simp only [Act.put, List.setIfInBounds_toArray, List.set_cons_zero, List.set_cons_succ]
          refine wpAnyH_take (i := 6) (oi := ?o6Njx) (v := ?v6Njx) ?h6Njx (by kernel_rfl) (by kernel_rfl) (by kernel_rfl) ?q6Njx (Or.inl ⟨?w6Njx, ?y6Njx⟩) (by assumption) ?r6Njx
          case h6Njx => (simp only [List.getElem?_toArray, List.getElem?_cons_succ, List.getElem?_cons_zero] <;> rfl)
          case q6Njx => exact fun _ _ _ h => h
          case w6Njx => rfl
          case y6Njx => (intro w hSw; (try dsimp only at hSw); go_simp; (try with_reducible rfl))
          try simp only [Act.put, List.setIfInBounds_toArray, List.set_cons_zero, List.set_cons_succ]
          refine wpAnyH_take (i := 7) (oi := ?o7Njx) (v := ?v7Njx) ?h7Njx (by kernel_rfl) (by kernel_rfl) (by kernel_rfl) ?q7Njx (Or.inl ⟨?w7Njx, ?y7Njx⟩) (by assumption) ?r7Njx
          case h7Njx => (simp only [List.getElem?_toArray, List.getElem?_cons_succ, List.getElem?_cons_zero] <;> rfl)
          case q7Njx => exact fun _ _ _ h => h
          case w7Njx => rfl
          case y7Njx => (intro w hSw; (try dsimp only at hSw); go_simp; (try with_reducible rfl))
          try simp only [Act.put, List.setIfInBounds_toArray, List.set_cons_zero, List.set_cons_succ]
          refine wpAnyH_ready (rs := [8]) (by kernel_rfl) (by simp) ?_
          refine AllReadyH.cons (o := ?o8Njx) ?h8Njx (fun K hK => ?_) AllReadyH.nil
          case h8Njx => (simp only [List.getElem?_toArray, List.getElem?_cons_succ, List.getElem?_cons_zero] <;> rfl)
          go_simp
          refine (put16_calls w.heap.size g q q 2 (q - 2) _ t _ (by omega) (own_below HO1.out (Below.refl _ _).drew) (by omega)).mono ?_
          rintro e u2 ⟨rfl, ho2, hg2⟩
          have HO2 := Lib.hid ho2
          have HBU2 := Lib.hid (HBU1.out.drew.grown hg2 (by have := HBU1.out.size; simpa using this) (fun k hk => by injection hk with hk; omega))
          clear ho2 hg2
          refine hK.out _ _ ?s8Njx (fun hHeld => ?_)
          case s8Njx => exact cells_one HBU2.out hpc1
          clear hK K
          try simp only [Act.put, List.setIfInBounds_toArray, List.set_cons_zero, List.set_cons_succ]
          refine wpAnyH_done (by kernel_rfl) ?_ _
          clear hHeld
          go_wp2_with fail
          go_ret
          have h := HO2.out
          rw [mid_put, FINL.out] at h
          refine ⟨_, rfl, ?_, HBU2.out⟩
          rw [← HQ.out]
          exact h
  | some ad =>
    have HGXa := HGX0
    have hrd : Rd w (some ad) (bytesC d) := HBY.out.at_.rd
    obtain ⟨vc, w4, hrun, hgx4, hb4, hg4, hs4⟩ := copy_into w.heap.size g q 4 (mid q []) (if q = 4 then some ⟨g, 0, none⟩ else some ⟨g, 4, none⟩) (q - 4) (q - 4) (some ad) k1 d w3.drew HGXa.out (mid_length _ _ (by simp; omega)) (by omega) (by omega) (fun hne => by rw [if_neg (by have := List.length_pos_iff.2 hne; omega)]) (hrd.below HB3.out.drew) hgw
    have hms := mid_splice q [] d (by simp; omega)
    rw [List.length_nil, Nat.add_zero, List.nil_append] at hms
    rw [hms] at hgx4
    have HGX := Lib.hid hgx4
    have HBW := Lib.hid (HB3.out.drew.trans hb4)
    have c14 := cells_one HBW.out c1w
    have c24 := cells_one HBW.out c2w
    have zq3 : (4 : Int) ≤ (q : Int) := by omega
    clear hgx4 hb4 hg4 hrd hms
    go_wp2_with fail
    refine wp_region_held_drew (S := fun w' => w'.cell? ⟨p, 2, none⟩ = some (.slice (some ad) d.length k1)) (by kernel_rfl) c13 (fun hHeld => ?_)
    refine wpAnyH_take (i := 0) (oi := ?o0) (v := ?v0) ?h0 (by kernel_rfl) (by kernel_rfl) (by kernel_rfl) ?q0 (Or.inl ⟨?w0, ?y0⟩) (by assumption) ?r0
    case h0 => (simp only [List.getElem?_toArray, List.getElem?_cons_succ, List.getElem?_cons_zero] <;> rfl)
    case q0 => exact fun _ _ _ h => h
    case w0 => rfl
    case y0 => (intro w hSw; (try dsimp only at hSw); go_simp; (try with_reducible rfl))
    try simp only [Act.put, List.setIfInBounds_toArray, List.set_cons_zero, List.set_cons_succ]
    refine wpAnyH_take (i := 1) (oi := ?o1) (v := ?v1) ?h1 (by kernel_rfl) (by kernel_rfl) (by kernel_rfl) ?q1 (Or.inl ⟨?w1, ?y1⟩) (by assumption) ?r1
    case h1 => (simp only [List.getElem?_toArray, List.getElem?_cons_succ, List.getElem?_cons_zero] <;> rfl)
    case q1 => exact fun _ _ _ h => h
    case w1 => rfl
    case y1 => (intro w hSw; (try dsimp only at hSw); go_simp; (try with_reducible rfl))
    try simp only [Act.put, List.setIfInBounds_toArray, List.set_cons_zero, List.set_cons_succ]
    refine wpAnyH_take (i := 2) (oi := ?o2) (v := ?v2) ?h2 (by kernel_rfl) (by kernel_rfl) (by kernel_rfl) ?q2 (Or.inl ⟨?w2, ?y2⟩) (by assumption) ?r2
    case h2 => (simp only [List.getElem?_toArray, List.getElem?_cons_succ, List.getElem?_cons_zero] <;> rfl)
    case q2 => exact fun _ _ _ h => h
    case w2 => rfl
    case y2 => (intro w hSw; (try dsimp only at hSw); go_simp; (try with_reducible rfl))
    try simp only [Act.put, List.setIfInBounds_toArray, List.set_cons_zero, List.set_cons_succ]
    refine wpAnyH_take (i := 3) (oi := ?o3) (v := ?v3) ?h3 (by kernel_rfl) (by kernel_rfl) (by kernel_rfl) ?q3 (Or.inl ⟨?w3, ?y3⟩) (by assumption) ?r3
    case h3 => (simp only [List.getElem?_toArray, List.getElem?_cons_succ, List.getElem?_cons_zero] <;> rfl)
    case q3 => exact fun _ _ _ h => h
    case w3 => rfl
    case y3 => (intro w hSw; (try dsimp only at hSw); go_simp; (try with_reducible rfl))
    try simp only [Act.put, List.setIfInBounds_toArray, List.set_cons_zero, List.set_cons_succ]
    refine wpAnyH_take (i := 4) (oi := ?o4) (v := ?v4) ?h4 (by kernel_rfl) (by kernel_rfl) (by kernel_rfl) ?q4 (Or.inl ⟨?w4, ?y4⟩) (by assumption) ?r4
    case h4 => (simp only [List.getElem?_toArray, List.getElem?_cons_succ, List.getElem?_cons_zero] <;> rfl)
    case q4 => exact fun _ _ _ h => h
    case w4 => rfl
    case y4 => (intro w hSw; (try dsimp only at hSw); go_simp; (try with_reducible rfl))
    try simp only [Act.put, List.setIfInBounds_toArray, List.set_cons_zero, List.set_cons_succ]
    refine wpAnyH_take (i := 5) (oi := ?o5) (v := ?v5) ?h5 (by kernel_rfl) (by kernel_rfl) (by kernel_rfl) ?q5 (Or.inl ⟨?w5, ?y5⟩) (by assumption) ?r5
    case h5 => (simp only [List.getElem?_toArray, List.getElem?_cons_succ, List.getElem?_cons_zero] <;> rfl)
    case q5 => exact fun _ _ _ h => h
    case w5 => rfl
    case y5 => (intro w hSw; (try dsimp only at hSw); go_simp; (try with_reducible rfl))
    try simp only [Act.put, List.setIfInBounds_toArray, List.set_cons_zero, List.set_cons_succ]
    refine wpAnyH_take (i := 6) (oi := ?o6) (v := ?v6) ?h6 (by kernel_rfl) (by kernel_rfl) (by kernel_rfl) ?q6 (Or.inl ⟨?w6, ?y6⟩) (by assumption) ?r6
    case h6 => (simp only [List.getElem?_toArray, List.getElem?_cons_succ, List.getElem?_cons_zero] <;> rfl)
    case q6 => exact fun _ _ _ h => h
    case w6 => rfl
    case y6 => (intro w hSw; (try dsimp only at hSw); go_simp; (try with_reducible rfl))
    try simp only [Act.put, List.setIfInBounds_toArray, List.set_cons_zero, List.set_cons_succ]
    refine wpAnyH_ready (rs := [7]) (by kernel_rfl) (by simp) ?_
    refine AllReadyH.cons (o := ?o7) ?h7 (fun K hK => ?_) AllReadyH.nil
    case h7 => (simp only [List.getElem?_toArray, List.getElem?_cons_succ, List.getElem?_cons_zero] <;> rfl)
    refine wp_copy_any (Operand.tmp 24) (Operand.tmp 28) 31 rfl rfl rfl hrun ?_
    refine hK.out _ _ ?s7 (fun hHeld => ?_)
    case s7 => exact c14
    clear hK K
    try simp only [Act.put, List.setIfInBounds_toArray, List.set_cons_zero, List.set_cons_succ]
    refine wpAnyH_done (by kernel_rfl) ?_ _
    clear hHeld hrun
    have hD : (if q = 4 then some (⟨g, 0, none⟩ : Addr) else some ⟨g, 4, none⟩) = from4 g 0 q 4 := by unfold from4; simp
    rw [hD]
    have wn3 : IntKind.i64.wrap (4 + ((d.length : Int) + 3) / 4 * 4) = 4 + ((d.length : Int) + 3) / 4 * 4 := IntWalk.i64_in _ (by omega)
    by_cases hks0 : ks = []
    · subst hks0
      have OWN : Hid (w4.ownsRow w.heap.size 5 1 (.slice (some ⟨g, 0, none⟩) q q) q (bytesC (mid q (d)))) := own_of_full HGX.out (by rw [bytesC_length, mid_length _ _ (by omega)]) hgw (by unfold maxLen; omega)
      have FINL := Lib.hid (fin_eq t _ _ (d) L q (by simp [attrsB]) (by rw [HL2.out]; simp [attrsB]) HQ.out)
      have wl16 : IntKind.u16.wrap L = L := IntWalk.u16_in _ (by omega)
      have hLne : (L != 0) = true := by rw [bne_iff_ne]; omega
      have zq1 : (2 : Int) ≤ (q : Int) := by omega
      have zq2 : ¬ q = 2 := by omega
      have zq3 : (4 : Int) ≤ (q : Int) := by omega
      go_wp2_with (go_at_call 89; refine (align_calls _ _ (by omega)).mono ?_; rintro e w' ⟨rfl, rfl⟩)
      refine wp_region_held_drew (S := fun _ => True) (by kernel_rfl) trivial (fun hHeld => ?_)
      refine wpAnyH_take (i := 0) (oi := ?o0Sk) (v := ?v0Sk) ?h0Sk (by kernel_rfl) (by kernel_rfl) (by kernel_rfl) ?q0Sk (Or.inl ⟨?w0Sk, ?y0Sk⟩) (by assumption) ?r0Sk
      case h0Sk => (simp only [List.getElem?_toArray, List.getElem?_cons_succ, List.getElem?_cons_zero] <;> rfl)
      case q0Sk => exact fun _ _ _ h => h
      case w0Sk => rfl
      case y0Sk => (intro w hSw; (try dsimp only at hSw); go_simp; (try with_reducible rfl))
      try simp only [Act.put, List.setIfInBounds_toArray, List.set_cons_zero, List.set_cons_succ]
      refine wpAnyH_take (i := 1) (oi := ?o1Sk) (v := ?v1Sk) ?h1Sk (by kernel_rfl) (by kernel_rfl) (by kernel_rfl) ?q1Sk (Or.inl ⟨?w1Sk, ?y1Sk⟩) (by assumption) ?r1Sk
      case h1Sk => (simp only [List.getElem?_toArray, List.getElem?_cons_succ, List.getElem?_cons_zero] <;> rfl)
      case q1Sk => exact fun _ _ _ h => h
      case w1Sk => rfl
      case y1Sk => (intro w hSw; (try dsimp only at hSw); go_simp; (try with_reducible rfl))
      try simp only [Act.put, List.setIfInBounds_toArray, List.set_cons_zero, List.set_cons_succ]
      refine wpAnyH_take (i := 2) (oi := ?o2Sk) (v := ?v2Sk) ?h2Sk (by kernel_rfl) (by kernel_rfl) (by kernel_rfl) ?q2Sk (Or.inl ⟨?w2Sk, ?y2Sk⟩) (by assumption) ?r2Sk
      case h2Sk => (simp only [List.getElem?_toArray, List.getElem?_cons_succ, List.getElem?_cons_zero] <;> rfl)
      case q2Sk => exact fun _ _ _ h => h
      case w2Sk => rfl
      case y2Sk => (intro w hSw; (try dsimp only at hSw); go_simp; (try with_reducible rfl))
      try simp only [Act.put, List.setIfInBounds_toArray, List.set_cons_zero, List.set_cons_succ]
      refine wpAnyH_take (i := 3) (oi := ?o3Sk) (v := ?v3Sk) ?h3Sk (by kernel_rfl) (by kernel_rfl) (by kernel_rfl) ?q3Sk (Or.inl ⟨?w3Sk, ?y3Sk⟩) (by assumption) ?r3Sk
      case h3Sk => (simp only [List.getElem?_toArray, List.getElem?_cons_succ, List.getElem?_cons_zero] <;> rfl)
      case q3Sk => exact fun _ _ _ h => h
      case w3Sk => rfl
      case y3Sk => (intro w hSw; (try dsimp only at hSw); go_simp; (try with_reducible rfl))
      try simp only [Act.put, List.setIfInBounds_toArray, List.set_cons_zero, List.set_cons_succ]
      refine wpAnyH_ready (rs := [4]) (by kernel_rfl) (by simp) ?_
      refine AllReadyH.cons (o := ?o4Sk) ?h4Sk (fun K hK => ?_) AllReadyH.nil
      case h4Sk => (simp only [List.getElem?_toArray, List.getElem?_cons_succ, List.getElem?_cons_zero] <;> rfl)
      go_simp
      refine (put16_calls w.heap.size g q q 0 q _ L _ (by omega) (own_below OWN.out (Below.refl _ _).drew) (by omega)).mono ?_
      rintro e u1 ⟨rfl, ho1, hg1⟩
      have HO1 := Lib.hid ho1
      have HBU1 := Lib.hid (HBW.out.drew.grown hg1 (by have := HBW.out.size; simpa using this) (fun k hk => by injection hk with hk; omega))
      clear ho1 hg1
      refine hK.out _ _ ?s4Sk (fun hHeld => ?_)
      case s4Sk => trivial
      clear hK K
      try simp only [Act.put, List.setIfInBounds_toArray, List.set_cons_zero, List.set_cons_succ]
      refine wpAnyH_done (by kernel_rfl) ?_ _
      clear hHeld
      have cp2 := cells_one HBU1.out hpc1
      go_wp2_with fail
      refine wp_region_held_drew (S := fun w' => w'.cell? ⟨p, 1, none⟩ = some (.int .u16 t)) (by kernel_rfl) cp2 (fun hHeld => ?_)
      refine wpAnyH_take (i := 0) (oi := ?o0Skx) (v := ?v0Skx) ?h0Skx (by kernel_rfl) (by kernel_rfl) (by kernel_rfl) ?q0Skx (Or.inl ⟨?w0Skx, ?y0Skx⟩) (by assumption) ?r0Skx
      case h0Skx => (simp only [List.getElem?_toArray, List.getElem?_cons_succ, List.getElem?_cons_zero] <;> rfl)
      case q0Skx => exact fun _ _ _ h => h
      case w0Skx => rfl
      case y0Skx => (intro w hSw; (try dsimp only at hSw); go_simp; (try with_reducible rfl))
      try simp only [Act.put, List.setIfInBounds_toArray, List.set_cons_zero, List.set_cons_succ]
      refine wpAnyH_take (i := 1) (oi := ?o1Skx) (v := ?v1Skx) ?h1Skx (by kernel_rfl) (by kernel_rfl) (by kernel_rfl) ?q1Skx (Or.inl ⟨?w1Skx, ?y1Skx⟩) (by assumption) ?r1Skx
      case h1Skx => (simp only [List.getElem?_toArray, List.getElem?_cons_succ, List.getElem?_cons_zero] <;> rfl)
      case q1Skx => exact fun _ _ _ h => h
      case w1Skx => rfl
      case y1Skx => (intro w hSw; (try dsimp only at hSw); go_simp; (try with_reducible rfl))
      try simp only [Act.put, List.setIfInBounds_toArray, List.set_cons_zero, List.set_cons_succ]
      refine wpAnyH_take (i := 2) (oi := ?o2Skx) (v := ?v2Skx) ?h2Skx (by kernel_rfl) (by kernel_rfl) (by kernel_rfl) ?q2Skx (Or.inl ⟨?w2Skx, ?y2Skx⟩) (by assumption) ?r2Skx
      case h2Skx => (simp only [List.getElem?_toArray, List.getElem?_cons_succ, List.getElem?_cons_zero] <;> rfl)
      case q2Skx => exact fun _ _ _ h => h
      case w2Skx => rfl
      case y2Skx => (intro w hSw; (try dsimp only at hSw); go_simp; (try with_reducible rfl))
      try simp only [Act.put, List.setIfInBounds_toArray, List.set_cons_zero, List.set_cons_succ]
      refine wpAnyH_take (i := 3) (oi := ?o3Skx) (v := ?v3Skx) ?h3Skx (by kernel_rfl) (by kernel_rfl) (by kernel_rfl) ?q3Skx (Or.inl ⟨?w3Skx, ?y3Skx⟩) (by assumption) ?r3Skx
      case h3Skx => (simp only [List.getElem?_toArray, List.getElem?_cons_succ, List.getElem?_cons_zero] <;> rfl)
      case q3Skx => exact fun _ _ _ h => h
      case w3Skx => rfl
      case y3Skx => (intro w hSw; (try dsimp only at hSw); go_simp; (try with_reducible rfl))
      try simp only [Act.put, List.setIfInBounds_toArray, List.set_cons_zero, List.set_cons_succ]
      refine wpAnyH_take (i := 4) (oi := ?o4Skx) (v := ?v4Skx) ?h4Skx (by kernel_rfl) (by kernel_rfl) (by kernel_rfl) ?q4Skx (Or.inl ⟨?w4Skx, ?y4Skx⟩) (by assumption) ?r4Skx
      case h4Skx => (simp only [List.getElem?_toArray, List.getElem?_cons_succ, List.getElem?_cons_zero] <;> rfl)
      case q4Skx => exact fun _ _ _ h => h
      case w4Skx => rfl
      case y4Skx => (intro w hSw; (try dsimp only at hSw); go_simp; (try with_reducible rfl))
      try simp only [Act.put, List.setIfInBounds_toArray, List.set_cons_zero, List.set_cons_succ]
      refine wpAnyH_take (i := 5) (oi := ?o5Skx) (v := ?v5Skx) ?h5Skx (by kernel_rfl) (by kernel_rfl) (by kernel_rfl) ?q5Skx (Or.inl ⟨?w5Skx, ?y5Skx⟩) (by assumption) ?r5Skx
      case h5Skx => (simp only [List.getElem?_toArray, List.getElem?_cons_succ, List.getElem?_cons_zero] <;> rfl)
      case q5Skx => exact fun _ _ _ h => h
      case w5Skx => rfl
      case y5Skx => (intro w hSw; (try dsimp only at hSw); go_simp; (try with_reducible rfl))
      try simp only [Act.put, List.setIfInBounds_toArray, List.set_cons_zero, List.set_cons_succ]
      refine wpAnyH_take (i := 6) (oi := ?o6Skx) (v := ?v6Skx) ?h6Skx (by kernel_rfl) (by kernel_rfl) (by kernel_rfl) ?q6Skx (Or.inl ⟨?w6Skx, ?y6Skx⟩) (by assumption) ?r6Skx
      case h6Skx => (simp only [List.getElem?_toArray, List.getElem?_cons_succ, List.getElem?_cons_zero] <;> rfl)
      case q6Skx => exact fun _ _ _ h => h
      case w6Skx => rfl
      case y6Skx => (intro w hSw; (try dsimp only at hSw); go_simp; (try with_reducible rfl))
      try simp only [Act.put, List.setIfInBounds_toArray, List.set_cons_zero, List.set_cons_succ]
      refine wpAnyH_take (i := 7) (oi := ?o7Skx) (v := ?v7Skx) ?h7Skx (by kernel_rfl) (by kernel_rfl) (by kernel_rfl) ?q7Skx (Or.inl ⟨?w7Skx, ?y7Skx⟩) (by assumption) ?r7Skx
      case h7Skx => (simp only [List.getElem?_toArray, List.getElem?_cons_succ, List.getElem?_cons_zero] <;> rfl)
      case q7Skx => exact fun _ _ _ h => h
      case w7Skx => rfl
      case y7Skx => (intro w hSw; (try dsimp only at hSw); go_simp; (try with_reducible rfl))
      try simp only [Act.put, List.setIfInBounds_toArray, List.set_cons_zero, List.set_cons_succ]
      refine wpAnyH_ready (rs := [8]) (by kernel_rfl) (by simp) ?_
      refine AllReadyH.cons (o := ?o8Skx) ?h8Skx (fun K hK => ?_) AllReadyH.nil
      case h8Skx => (simp only [List.getElem?_toArray, List.getElem?_cons_succ, List.getElem?_cons_zero] <;> rfl)
      go_simp
      refine (put16_calls w.heap.size g q q 2 (q - 2) _ t _ (by omega) (own_below HO1.out (Below.refl _ _).drew) (by omega)).mono ?_
      rintro e u2 ⟨rfl, ho2, hg2⟩
      have HO2 := Lib.hid ho2
      have HBU2 := Lib.hid (HBU1.out.drew.grown hg2 (by have := HBU1.out.size; simpa using this) (fun k hk => by injection hk with hk; omega))
      clear ho2 hg2
      refine hK.out _ _ ?s8Skx (fun hHeld => ?_)
      case s8Skx => exact cells_one HBU2.out hpc1
      clear hK K
      try simp only [Act.put, List.setIfInBounds_toArray, List.set_cons_zero, List.set_cons_succ]
      refine wpAnyH_done (by kernel_rfl) ?_ _
      clear hHeld
      go_wp2_with fail
      go_ret
      have h := HO2.out
      rw [mid_put, FINL.out] at h
      refine ⟨_, rfl, ?_, HBU2.out⟩
      rw [← HQ.out]
      exact h
    · have hd0 : d = [] := by
        rcases HDK.out with h | h
        · exact h
        · exact absurd h hks0
      subst hd0
      obtain ⟨bb, o, rfl, hFb, hkk⟩ := HKS.out hks0
      have HKK := Lib.hid hkk
      have hpos : 0 < ks.length := List.length_pos_iff.2 hks0
      have hml : ks.length ≤ 4000 := by
        have : ∀ l : List Tree, l.length ≤ costs l := by
          intro l
          induction l with
          | nil => simp
          | cons x r ih2 => cases x; simp [costs, cost]; omega
        have := this ks
        omega
      have hGB := HGX
      have hBB := HBW
      clear hkk
      go_wp2_with (go_at_call 89; refine (align_calls _ _ (by omega)).mono ?_; rintro e w' ⟨rfl, rfl⟩)
      go_loopw [6, 49] (fun s i wr => ∃ k : Nat, k ≤ ks.length ∧ i = .int .i64 (k : Nat) ∧ s = .int .i64 ((4 + (attrsB (ks.take k)).length : Nat) : Int) ∧ Hid (wr.heap[g]? = some (.cells (bytesC (mid q (attrsB (ks.take k)))).toArray 5 (0, 0))) ∧ Hid (Below w.heap.size w wr)) (fun _ i _ => ks.length - (intOf i).toNat)
      case atStart => exact ⟨0, Nat.zero_le _, rfl, by simp [attrsB], by simpa [attrsB] using hGB, hBB⟩
      case round =>
        obtain ⟨k, hk, rfl, rfl, HGX, HBW⟩ := hrel
        clear hGB hBB
        have hszr := HBW.out.size
        have hglr := lt_of_block HGX.out
        by_cases hlt : k < ks.length
        · obtain ⟨g1, e1w, hkid⟩ := KsAt.get ks bb o k hlt HKK.out
          have e1 := cells_one HBW.out e1w
          have hle2 := attrsB_take_le ks (k + 1)
          have hcm := cost_mem hlt
          have hsn : attrsB (ks.take (k + 1)) = attrsB (ks.take k) ++ attrB ks[k] := by
            rw [List.take_succ_eq_append_getElem hlt, attrsB_append]; simp [attrsB]
          have hgk := Goods.mem hlt HGS.out
          obtain ⟨T1, hT1⟩ : ∃ T1, T1 = ks[k] := ⟨_, rfl⟩
          have hin : T1 ∈ ks := by rw [hT1]; exact List.getElem_mem hlt
          rw [← hT1] at hkid hcm hsn hgk
          have sc := HIH.out T1 hin wr F g1 (RAt.keep (fun g' hg' => ⟨HBW.out.block g' (HF.out g' hg'), hg'⟩) _ _ hkid) (fun g' hg' => by have := HF.out g' hg'; omega) hgk (by omega)
          rw [hsn, List.length_append] at hle2
          have hm1 : (attrB T1).length % 4 = 0 ∧ 0 < (attrB T1).length := by
            obtain ⟨t', d', k'⟩ := T1
            rw [attrB_len]; omega
          have SC := Lib.hid sc
          have HSN := Lib.hid hsn
          obtain ⟨X0, hX0⟩ : ∃ X0, X0 = attrsB (ks.take k) := ⟨_, rfl⟩
          rw [← hX0] at hle2 HGX HSN
          rw [← hX0]
          obtain ⟨n0, hn0⟩ : ∃ n0, n0 = X0.length := ⟨_, rfl⟩
          rw [← hn0] at hle2
          rw [← hn0]
          obtain ⟨q1, hq1⟩ : ∃ q1, q1 = (attrB T1).length := ⟨_, rfl⟩
          rw [← hq1] at hle2 hm1 SC
          have HQ1 := Lib.hid hq1
          have HN0 := Lib.hid hn0
          clear hT1 hin hkid hgk sc hsn hX0 hn0 hq1 e1w
          have hmid : (mid q X0).length = q := mid_length _ _ (by rw [← HN0.out]; omega)
          have wn : IntKind.i64.wrap (4 + (n0 : Int)) = 4 + (n0 : Int) := IntWalk.i64_in _ (by omega)
          have HMD := Lib.hid hmid
          clear hmid
          go_wp2_with fail
          refine SC.out.mono ?_
          rintro e w5 ⟨v5, rfl, hown5, hb5⟩
          obtain ⟨A5, c5, rfl, -, hr5, -⟩ := Rd.of_own hown5
          have hgx5 := (hb5.block g hglr).trans HGX.out
          have hb5w := HBW.out.trans (hb5.mono hszr)
          obtain ⟨vc, w6, hrun, hgx6, hb6, hg6, hs6⟩ := copy_into w.heap.size g q (4 + n0) (mid q X0) (some ⟨g, 4 + n0, none⟩) (q - (4 + n0)) (q - (4 + n0)) A5 c5 (attrB T1) w5 hgx5 HMD.out (by rw [← HQ1.out]; omega) (by rw [← HQ1.out]; omega) (fun _ => rfl) hr5 hgw
          rw [← HQ1.out] at hrun
          rw [HN0.out, mid_splice _ _ _ (by rw [← HN0.out, ← HQ1.out]; omega), ← HSN.out] at hgx6
          have HGX6 := Lib.hid hgx6
          have HB6 := Lib.hid (hb5w.trans hb6)
          clear hown5 hb5 hr5 hgx5 hb5w hgx6 hb6 hg6
          have zz : (4 : Int) + (n0 : Int) ≤ (q : Int) := by omega
          have zz2 : ((4 : Int) + (n0 : Int)).toNat = 4 + n0 := by omega
          have zz3 : ¬ q = 4 + n0 := by omega
          have zz4 : ((q1 : Int) + 3) / 4 * 4 = (q1 : Int) := by omega
          have wn2 : IntKind.i64.wrap (4 + (n0 : Int) + (q1 : Int)) = 4 + (n0 : Int) + (q1 : Int) := IntWalk.i64_in _ (by omega)
          go_wp2_with (first
            | (go_at_call 89; refine (align_calls _ _ (by omega)).mono ?_; rintro e w' ⟨rfl, rfl⟩; rw [zz4])
            | (at_builtin; refine wpList_copy_any rfl _ _ 31 rfl rfl rfl hrun ?_))
          go_roundw
          case rel =>
            refine ⟨k + 1, by omega, by go_num, ?_, HGX6, HB6⟩
            rw [HSN.out, List.length_append, ← HN0.out, ← HQ1.out]; go_num
          case measure => simp [intOf]; omega
        · have hkk2 : k = ks.length := by omega
          subst hkk2
          have e0 : attrsB (ks.take ks.length) = attrsB ks := by rw [List.take_length]
          rw [e0] at HGX
          rw [e0]
          clear e0
          have OWN : Hid (wr.ownsRow w.heap.size 5 1 (.slice (some ⟨g, 0, none⟩) q q) q (bytesC (mid q (attrsB ks)))) := own_of_full HGX.out (by rw [bytesC_length, mid_length _ _ (by omega)]) hgw (by unfold maxLen; omega)
          have FINL := Lib.hid (fin_eq t _ _ (attrsB ks) L q (by simp) (by rw [HL2.out]; simp) HQ.out)
          have wl16 : IntKind.u16.wrap L = L := IntWalk.u16_in _ (by omega)
          have hLne : (L != 0) = true := by rw [bne_iff_ne]; omega
          have zq1 : (2 : Int) ≤ (q : Int) := by omega
          have zq2 : ¬ q = 2 := by omega
          have zq3 : (4 : Int) ≤ (q : Int) := by omega
          go_wp2_with fail
          refine wp_region_held_drew (S := fun _ => True) (by kernel_rfl) trivial (fun hHeld => ?_)
          refine wpAnyH_take (i := 0) (oi := ?o0Sj) (v := ?v0Sj) ?h0Sj (by kernel_rfl) (by kernel_rfl) (by kernel_rfl) ?q0Sj (Or.inl ⟨?w0Sj, ?y0Sj⟩) (by assumption) ?r0Sj
          case h0Sj => (simp only [List.getElem?_toArray, List.getElem?_cons_succ, List.getElem?_cons_zero] <;> rfl)
          case q0Sj => exact fun _ _ _ h => h
          case w0Sj => rfl
          case y0Sj => (intro w hSw; (try dsimp only at hSw); go_simp; (try with_reducible rfl))
          try simp only [Act.put, List.setIfInBounds_toArray, List.set_cons_zero, List.set_cons_succ]
          refine wpAnyH_take (i := 1) (oi := ?o1Sj) (v := ?v1Sj) ?h1Sj (by kernel_rfl) (by kernel_rfl) (by kernel_rfl) ?q1Sj (Or.inl ⟨?w1Sj, ?y1Sj⟩) (by assumption) ?r1Sj
          case h1Sj => (simp only [List.getElem?_toArray, List.getElem?_cons_succ, List.getElem?_cons_zero] <;> rfl)
          case q1Sj => exact fun _ _ _ h => h
          case w1Sj => rfl
          case y1Sj => (intro w hSw; (try dsimp only at hSw); go_simp; (try with_reducible rfl))
          try simp only [Act.put, List.setIfInBounds_toArray, List.set_cons_zero, List.set_cons_succ]
          refine wpAnyH_take (i := 2) (oi := ?o2Sj) (v := ?v2Sj) ?h2Sj (by kernel_rfl) (by kernel_rfl) (by kernel_rfl) ?q2Sj (Or.inl ⟨?w2Sj, ?y2Sj⟩) (by assumption) ?r2Sj
          case h2Sj => (simp only [List.getElem?_toArray, List.getElem?_cons_succ, List.getElem?_cons_zero] <;> rfl)
          case q2Sj => exact fun _ _ _ h => h
          case w2Sj => rfl
          case y2Sj => (intro w hSw; (try dsimp only at hSw); go_simp; (try with_reducible rfl))
          try simp only [Act.put, List.setIfInBounds_toArray, List.set_cons_zero, List.set_cons_succ]
          refine wpAnyH_take (i := 3) (oi := ?o3Sj) (v := ?v3Sj) ?h3Sj (by kernel_rfl) (by kernel_rfl) (by kernel_rfl) ?q3Sj (Or.inl ⟨?w3Sj, ?y3Sj⟩) (by assumption) ?r3Sj
          case h3Sj => (simp only [List.getElem?_toArray, List.getElem?_cons_succ, List.getElem?_cons_zero] <;> rfl)
          case q3Sj => exact fun _ _ _ h => h
          case w3Sj => rfl
          case y3Sj => (intro w hSw; (try dsimp only at hSw); go_simp; (try with_reducible rfl))
          try simp only [Act.put, List.setIfInBounds_toArray, List.set_cons_zero, List.set_cons_succ]
          refine wpAnyH_ready (rs := [4]) (by kernel_rfl) (by simp) ?_
          refine AllReadyH.cons (o := ?o4Sj) ?h4Sj (fun K hK => ?_) AllReadyH.nil
          case h4Sj => (simp only [List.getElem?_toArray, List.getElem?_cons_succ, List.getElem?_cons_zero] <;> rfl)
          go_simp
          refine (put16_calls w.heap.size g q q 0 q _ L _ (by omega) (own_below OWN.out (Below.refl _ _).drew) (by omega)).mono ?_
          rintro e u1 ⟨rfl, ho1, hg1⟩
          have HO1 := Lib.hid ho1
          have HBU1 := Lib.hid (HBW.out.drew.grown hg1 (by have := HBW.out.size; simpa using this) (fun k hk => by injection hk with hk; omega))
          clear ho1 hg1
          refine hK.out _ _ ?s4Sj (fun hHeld => ?_)
          case s4Sj => trivial
          clear hK K
          try simp only [Act.put, List.setIfInBounds_toArray, List.set_cons_zero, List.set_cons_succ]
          refine wpAnyH_done (by kernel_rfl) ?_ _
          clear hHeld
          have cp2 := cells_one HBU1.out hpc1
          go_wp2_with fail
          refine wp_region_held_drew (S := fun w' => w'.cell? ⟨p, 1, none⟩ = some (.int .u16 t)) (by kernel_rfl) cp2 (fun hHeld => ?_)
          refine wpAnyH_take (i := 0) (oi := ?o0Sjx) (v := ?v0Sjx) ?h0Sjx (by kernel_rfl) (by kernel_rfl) (by kernel_rfl) ?q0Sjx (Or.inl ⟨?w0Sjx, ?y0Sjx⟩) (by assumption) ?r0Sjx
          case h0Sjx => (simp only [List.getElem?_toArray, List.getElem?_cons_succ, List.getElem?_cons_zero] <;> rfl)
          case q0Sjx => exact fun _ _ _ h => h
          case w0Sjx => rfl
          case y0Sjx => (intro w hSw; (try dsimp only at hSw); go_simp; (try with_reducible rfl))
          try simp only [Act.put, List.setIfInBounds_toArray, List.set_cons_zero, List.set_cons_succ]
          refine wpAnyH_take (i := 1) (oi := ?o1Sjx) (v := ?v1Sjx) ?h1Sjx (by kernel_rfl) (by kernel_rfl) (by kernel_rfl) ?q1Sjx (Or.inl ⟨?w1Sjx, ?y1Sjx⟩) (by assumption) ?r1Sjx
          case h1Sjx => (simp only [List.getElem?_toArray, List.getElem?_cons_succ, List.getElem?_cons_zero] <;> rfl)
          case q1Sjx => exact fun _ _ _ h => h
          case w1Sjx => rfl
          case y1Sjx => (intro w hSw; (try dsimp only at hSw); go_simp; (try with_reducible rfl))
          try simp only [Act.put, List.setIfInBounds_toArray, List.set_cons_zero, List.set_cons_succ]
          refine wpAnyH_take (i := 2) (oi := ?o2Sjx) (v := ?v2Sjx) ?h2Sjx (by kernel_rfl) (by kernel_rfl) (by kernel_rfl) ?q2Sjx (Or.inl ⟨?w2Sjx, ?y2Sjx⟩) (by assumption) ?r2Sjx
          case h2Sjx => (simp only [List.getElem?_toArray, List.getElem?_cons_succ, List.getElem?_cons_zero] <;> rfl)
          case q2Sjx => exact fun _ _ _ h => h
          case w2Sjx => rfl
          case y2Sjx => (intro w hSw; (try dsimp only at hSw); go_simp; (try with_reducible rfl))
          try simp only [Act.put, List.setIfInBounds_toArray, List.set_cons_zero, List.set_cons_succ]
          refine wpAnyH_take (i := 3) (oi := ?o3Sjx) (v := ?v3Sjx) ?h3Sjx (by kernel_rfl) (by kernel_rfl) (by kernel_rfl) ?q3Sjx (Or.inl ⟨?w3Sjx, ?y3Sjx⟩) (by assumption) ?r3Sjx
          case h3Sjx => (simp only [List.getElem?_toArray, List.getElem?_cons_succ, List.getElem?_cons_zero] <;> rfl)
          case q3Sjx => exact fun _ _ _ h => h
          case w3Sjx => rfl
          case y3Sjx => (intro w hSw; (try dsimp only at hSw); go_simp; (try with_reducible rfl))
          try simp only [Act.put, List.setIfInBounds_toArray, List.set_cons_zero, List.set_cons_succ]
          refine wpAnyH_take (i := 4) (oi := ?o4Sjx) (v := ?v4Sjx) ?h4Sjx (by kernel_rfl) (by kernel_rfl) (by kernel_rfl) ?q4Sjx (Or.inl ⟨?w4Sjx, ?y4Sjx⟩) (by assumption) ?r4Sjx
          case h4Sjx => (simp only [List.getElem?_toArray, List.getElem?_cons_succ, List.getElem?_cons_zero] <;> rfl)
          case q4Sjx => exact fun _ _ _ h => h
          case w4Sjx => rfl
          case y4Sjx => (intro w hSw; (try dsimp only at hSw); go_simp; (try with_reducible rfl))
          try simp only [Act.put, List.setIfInBounds_toArray, List.set_cons_zero, List.set_cons_succ]
          refine wpAnyH_take (i := 5) (oi := ?o5Sjx) (v := ?v5Sjx) ?h5Sjx (by kernel_rfl) (by kernel_rfl) (by kernel_rfl) ?q5Sjx (Or.inl ⟨?w5Sjx, ?y5Sjx⟩) (by assumption) ?r5Sjx
          case h5Sjx => (simp only [List.getElem?_toArray, List.getElem?_cons_succ, List.getElem?_cons_zero] <;> rfl)
          case q5Sjx => exact fun _ _ _ h => h
          case w5Sjx => rfl
          case y5Sjx => (intro w hSw; (try dsimp only at hSw); go_simp; (try with_reducible rfl))
          try simp only [Act.put, List.setIfInBounds_toArray, List.set_cons_zero, List.set_cons_succ]
          refine wpAnyH_take (i := 6) (oi := ?o6Sjx) (v := ?v6Sjx) ?h6Sjx (by kernel_rfl) (by kernel_rfl) (by kernel_rfl) ?q6Sjx (Or.inl ⟨?w6Sjx, ?y6Sjx⟩) (by assumption) ?r6Sjx
          case h6Sjx => (simp only [List.getElem?_toArray, List.getElem?_cons_succ, List.getElem?_cons_zero] <;> rfl)
          case q6Sjx => exact fun _ _ _ h => h
          case w6Sjx => rfl
          case y6Sjx => (intro w hSw; (try dsimp only at hSw); go_simp; (try with_reducible rfl))
          try simp only [Act.put, List.setIfInBounds_toArray, List.set_cons_zero, List.set_cons_succ]
          refine wpAnyH_take (i := 7) (oi := ?o7Sjx) (v := ?v7Sjx) ?h7Sjx (by kernel_rfl) (by kernel_rfl) (by kernel_rfl) ?q7Sjx (Or.inl ⟨?w7Sjx, ?y7Sjx⟩) (by assumption) ?r7Sjx
          case h7Sjx => (simp only [List.getElem?_toArray, List.getElem?_cons_succ, List.getElem?_cons_zero] <;> rfl)
          case q7Sjx => exact fun _ _ _ h => h
          case w7Sjx => rfl
          case y7Sjx => (intro w hSw; (try dsimp only at hSw); go_simp; (try with_reducible rfl))
          try simp only [Act.put, List.setIfInBounds_toArray, List.set_cons_zero, List.set_cons_succ]
          refine wpAnyH_ready (rs := [8]) (by kernel_rfl) (by simp) ?_
          refine AllReadyH.cons (o := ?o8Sjx) ?h8Sjx (fun K hK => ?_) AllReadyH.nil
          case h8Sjx => (simp only [List.getElem?_toArray, List.getElem?_cons_succ, List.getElem?_cons_zero] <;> rfl)
          go_simp
          refine (put16_calls w.heap.size g q q 2 (q - 2) _ t _ (by omega) (own_below HO1.out (Below.refl _ _).drew) (by omega)).mono ?_
          rintro e u2 ⟨rfl, ho2, hg2⟩
          have HO2 := Lib.hid ho2
          have HBU2 := Lib.hid (HBU1.out.drew.grown hg2 (by have := HBU1.out.size; simpa using this) (fun k hk => by injection hk with hk; omega))
          clear ho2 hg2
          refine hK.out _ _ ?s8Sjx (fun hHeld => ?_)
          case s8Sjx => exact cells_one HBU2.out hpc1
          clear hK K
          try simp only [Act.put, List.setIfInBounds_toArray, List.set_cons_zero, List.set_cons_succ]
          refine wpAnyH_done (by kernel_rfl) ?_ _
          clear hHeld
          go_wp2_with fail
          go_ret
          have h := HO2.out
          rw [mid_put, FINL.out] at h
          refine ⟨_, rfl, ?_, HBU2.out⟩
          rw [← HQ.out]
          exact h

theorem ser_calls : ∀ T : Tree, SerCalls T
  | .node t d ks => ser_step t d ks (fun x _ => ser_calls x)
termination_by T => SizeOf.sizeOf T
decreasing_by
  rename_i h
  have := List.sizeOf_lt_of_mem h
  simp
  omega
end Go.Proofs.Ytbogknjgjbhagaa
