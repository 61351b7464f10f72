/- The package's attribute built from the thin package's. -/
import Derived.Test.YtbogknjgjbhagaaAtt6
namespace Go.Proofs.Ytbogknjgjbhagaa
open Go.RowKit
set_option linter.unusedSimpArgs false

theorem own_bytesF {w : World} {base : Nat} {v : Value} {n : Nat} {d : List Int} (h : w.ownsRow base 5 1 v n (bytesC d)) : BytesF w (fun b => base ≤ b ∧ b < w.heap.size) v d := by
  have hn : d.length = n := by simpa using h.1
  obtain ⟨A, c, rfl, h1, h2, h3⟩ := Rd.of_own h
  subst hn
  refine ⟨A, c, rfl, h1, fun e => List.eq_nil_of_length_eq_zero (h3 e).1, fun hne => ?_⟩
  obtain ⟨b, o, rfl, hc⟩ := h2 (bytesC_ne (List.length_pos_iff.2 hne))
  have := own_block h b rfl
  exact ⟨b, o, rfl, ⟨this.1, own_lt h rfl⟩, hc⟩
theorem BytesF.mono {w : World} {F F' : Nat → Prop} {v : Value} {d : List Int} (h : BytesF w F v d) (hk : ∀ g, F g → F' g) : BytesF w F' v d := h.keep fun g hg => ⟨rfl, hk g hg⟩

def GivenPost (w : World) (T : Tree) (e : Ending) (w' : World) : Prop := ∃ g, e = .returned (.pointer (some ⟨g, 0, none⟩)) ∧ RAt w' (fun b => w.heap.size ≤ b ∧ b < w'.heap.size) g T ∧ Below w.heap.size w w'
def GivenCalls (w0 : World) (T : Tree) : Prop := ∀ (w : World) (a b c : Value), XAt w0 w0 (fun _ => True) a b c T → Below w0.heap.size w0 w → Good T → cost T ≤ 4000 → Calls Try.prog 60 #[.agg #[a, b, c]] w fun e w' => GivenPost w T e w'

theorem KsAt.of {w : World} {F : Nat → Prop} {bb : Nat} : ∀ (gs : List Nat) (ks : List Tree) (o : Nat), gs.length = ks.length → (∀ (i : Nat) (g : Nat) (x : Tree), gs[i]? = some g → ks[i]? = some x → RAt w F g x) →
    (∀ j u, (gs.map fun g => (Value.iface 99 (.pointer (some ⟨g, 0, none⟩))))[j]? = some u → w.cell? ⟨bb, o + j, none⟩ = some u) → KsAt w F bb o ks
  | _, [], _, _, _, _ => by simp only [KsAt]
  | [], x :: r, _, h, _, _ => by simp at h
  | g :: gs, x :: r, o, h, hr, hc => by
    simp only [KsAt]
    refine ⟨⟨g, hc 0 _ rfl, hr 0 g x rfl rfl⟩, KsAt.of gs r (o + 1) (by simpa using h) (fun i g' x' e1 e2 => hr (i + 1) g' x' (by simpa using e1) (by simpa using e2)) (fun j u hj => ?_)⟩
    rw [show o + 1 + j = o + (j + 1) from by omega]
    exact hc (j + 1) u (by simpa using hj)

/-- All others are there: the attribute. -/
theorem GivSt.done {w wr : World} {p : Nat} {t : Int} {d : List Int} {dv cv : Value} {gs : List Nat} {ks : List Tree} (h : GivSt w wr p t d ks.length dv cv gs ks) : RAt wr (fun b => w.heap.size ≤ b ∧ b < wr.heap.size) p (.node t d ks) := by
  obtain ⟨A, c, rfl, hc, hr, hA⟩ := Rd.of_own h.own
  simp only [RAt]
  refine ⟨⟨h.lo, lt_of_block h.rec_⟩, dv, _, h.rec_, h.data.mono fun b hF => ⟨hF.1, hF.2.1⟩, A, c, rfl, hc, fun hne => ?_⟩
  have hgs : (gs.map fun g => (Value.iface 99 (.pointer (some ⟨g, 0, none⟩)))) ≠ [] := fun e => by
    have := congrArg List.length e
    rw [List.length_map, h.kids.1, List.length_nil] at this
    exact hne (List.eq_nil_of_length_eq_zero this)
  obtain ⟨b, o, rfl, hcell⟩ := hr hgs
  refine ⟨b, o, rfl, ⟨(own_block h.own b rfl).1, own_lt h.own rfl⟩, KsAt.of gs ks o h.kids.1 (fun i g x e1 e2 => RAt.keep (fun b hF => ⟨rfl, hF.1, hF.2.1⟩) _ _ (h.kids.2 i g x e1 e2)) hcell⟩

set_option maxHeartbeats 4000000 in
set_option maxRecDepth 100000 in
theorem given_step (w0 : World) (t : Int) (d : List Int) (ks : List Tree) (ih : ∀ x ∈ ks, GivenCalls w0 x) : GivenCalls w0 (.node t d ks) := by
  intro w a b c hT hb hgood hcost
  obtain ⟨A, k1, A', k2, rfl, rfl, rfl, hdb, hdl, hk2, hk3, hbytes, hks⟩ := XAt.shape hT
  simp only [Good] at hgood
  rw [cost] at hcost
  have ht0 := hgood.1
  have ht1 := hgood.2.1
  have HIH := Lib.hid ih
  have HB := Lib.hid hb
  have HBY := Lib.hid hbytes
  have HKS := Lib.hid hks
  have HGS := Lib.hid hgood.2.2.2
  have hbs := hb.size
  have hml : ks.length ≤ 4000 := by
    have : ∀ l : List Tree, l.length ≤ costs l := by
      intro l
      induction l with
      | nil => simp
      | cons x r ih2 => cases x; simp [costs, cost]; omega
    have := this ks
    omega
  have z0 : decide (t < 0) = false := by simpa using ht0
  have z1 : decide (65535 < t) = false := by simpa using ht1
  clear ih hb hbytes hks hT hgood
  go_enter Try.func60, Try.ntmps60
  obtain ⟨W1, hW1⟩ : ∃ W1, W1 = w.alloc (.cells #[.int .i64 t, .slice A d.length k1, .slice A' ks.length k2] 56) := ⟨_, rfl⟩
  have D1 : Below w.heap.size w W1 := by rw [hW1]; exact (Below.refl _ w).alloc (Nat.le_refl _) _
  have q3 : Three W1 w.heap.size (.int .i64 t) (.slice A d.length k1) (.slice A' ks.length k2) := by rw [hW1]; exact three_new w _ _ _ _
  have hsz1 : W1.heap.size = w.heap.size + 1 := by rw [hW1]; simp
  obtain ⟨q30, q31, q32⟩ := q3
  have Q3 : Hid (Three W1 w.heap.size (.int .i64 t) (.slice A d.length k1) (.slice A' ks.length k2)) := ⟨q30, q31, q32⟩
  have HD1 := Lib.hid D1
  go_wp2_with fail
  rw [← hW1]
  clear hW1 D1
  refine wp_region_held_drew (S := fun w' => w'.cell? ⟨w.heap.size, 0, none⟩ = some (.int .i64 t) ∧ w'.cell? ⟨w.heap.size, 1, none⟩ = some (.slice A d.length k1)) (by kernel_rfl) ⟨q30, q31⟩ (fun hHeld => ?_)
  refine wpAnyH_take (i := 0) (oi := ?o0) (v := ?v0) ?h0 (by kernel_rfl) (by kernel_rfl) (by kernel_rfl) ?q0 (Or.inl ⟨?w0, ?y0⟩) (by assumption) ?r0
  case h0 => (simp only [List.getElem?_toArray, List.getElem?_cons_succ, List.getElem?_cons_zero] <;> rfl)
  case q0 => exact fun _ _ _ h => h
  case w0 => rfl
  case y0 => (intro w hSw; (try dsimp only at hSw); go_simp; (try with_reducible rfl))
  try simp only [Act.put, List.setIfInBounds_toArray, List.set_cons_zero, List.set_cons_succ]
  refine wpAnyH_take (i := 1) (oi := ?o1) (v := ?v1) ?h1 (by kernel_rfl) (by kernel_rfl) (by kernel_rfl) ?q1 (Or.inl ⟨?w1, ?y1⟩) (by assumption) ?r1
  case h1 => (simp only [List.getElem?_toArray, List.getElem?_cons_succ, List.getElem?_cons_zero] <;> rfl)
  case q1 => exact fun _ _ _ h => h
  case w1 => rfl
  case y1 => (intro w hSw; (try dsimp only at hSw); go_simp; (try with_reducible rfl))
  try simp only [Act.put, List.setIfInBounds_toArray, List.set_cons_zero, List.set_cons_succ]
  refine wpAnyH_take (i := 2) (oi := ?o2) (v := ?v2) ?h2 (by kernel_rfl) (by kernel_rfl) (by kernel_rfl) ?q2 (Or.inl ⟨?w2, ?y2⟩) (by assumption) ?r2
  case h2 => (simp only [List.getElem?_toArray, List.getElem?_cons_succ, List.getElem?_cons_zero] <;> rfl)
  case q2 => exact fun _ _ _ h => h
  case w2 => rfl
  case y2 => (intro w hSw; (try dsimp only at hSw); go_simp; (try with_reducible rfl))
  try simp only [Act.put, List.setIfInBounds_toArray, List.set_cons_zero, List.set_cons_succ]
  refine wpAnyH_take (i := 3) (oi := ?o3) (v := ?v3) ?h3 (by kernel_rfl) (by kernel_rfl) (by kernel_rfl) ?q3 (Or.inl ⟨?w3, ?y3⟩) (by assumption) ?r3
  case h3 => (simp only [List.getElem?_toArray, List.getElem?_cons_succ, List.getElem?_cons_zero] <;> rfl)
  case q3 => exact fun _ _ _ h => h
  case w3 => rfl
  case y3 => (intro w hSw; (try dsimp only at hSw); go_simp; (try with_reducible rfl))
  try simp only [Act.put, List.setIfInBounds_toArray, List.set_cons_zero, List.set_cons_succ]
  refine wpAnyH_ready (rs := [4]) (by kernel_rfl) (by simp) ?_
  refine AllReadyH.cons (o := ?o4) ?h4 (fun K hK => ?_) AllReadyH.nil
  case h4 => (simp only [List.getElem?_toArray, List.getElem?_cons_succ, List.getElem?_cons_zero] <;> rfl)
  go_simp
  refine (clone_bytes A d.length k1 (bytesC d) _ ((HBY.out.below (HB.out.trans (HD1.out.drew.mono hbs))).rd) (bytesC_length d) (by omega) (bytesC_one _) HBY.out.nil0).mono ?_
  rintro e w2 ⟨v2, rfl, hown2, -, hb2⟩
  have D2 : Below W1.heap.size W1 w2 := below_trans (Below.refl _ _).drew hb2
  have g3 := Q3.out.below D2
  have hf2 := own_bytesF hown2
  obtain ⟨A2, c2, rfl, -, -, -⟩ := Rd.of_own hown2
  have HF2 := Lib.hid hf2
  have HD2 := Lib.hid D2
  have hsz2 := D2.size
  clear hown2 hb2 D2 hf2
  refine hK.out _ _ ?s4 (fun hHeld => ?_)
  case s4 => exact ⟨g3.1, g3.2.1⟩
  clear hK K
  try simp only [Act.put, List.setIfInBounds_toArray, List.set_cons_zero, List.set_cons_succ]
  refine wpAnyH_ready (rs := [5]) (by kernel_rfl) (by simp) ?_
  refine AllReadyH.cons (o := ?o5) ?h5 (fun K hK => ?_) AllReadyH.nil
  case h5 => (simp only [List.getElem?_toArray, List.getElem?_cons_succ, List.getElem?_cons_zero] <;> rfl)
  go_simp
  refine (new_calls t A2 d.length c2 w2 ⟨ht0, ht1⟩).mono ?_
  rintro e w3 ⟨p, cv, rfl, hp, hpx, hpo, hb3⟩
  have g4 := g3.below hb3
  have hsz3 := hb3.size
  have hcvb : ∀ b, cv.ownBlock = some b → w2.heap.size ≤ b := fun b e => (own_block hpo b e).1
  have st0 : GivSt w w3 p t d 0 (.slice A2 d.length c2) cv [] [] := ⟨by omega, hpx, own_lower hpo (by omega), HF2.out.keep fun b hF => ⟨hb3.block b hF.2, by have h1 := hF.1; simp at h1; omega, by have h2 := hF.2; omega, by have h2 := hF.2; omega, fun e => by have h3 := hcvb b e; have h2 := hF.2; omega⟩, ⟨rfl, fun i g x e1 _ => by simp at e1⟩, rfl, HD1.out.trans ((below_trans HD2.out hb3).mono (by omega))⟩
  have ST0 := Lib.hid st0
  clear hpx hpo hb3 st0 hcvb
  refine hK.out _ _ ?s5 (fun hHeld => ?_)
  case s5 => exact ⟨g4.1, g4.2.1⟩
  clear hK K
  try simp only [Act.put, List.setIfInBounds_toArray, List.set_cons_zero, List.set_cons_succ]
  refine wpAnyH_take (i := 6) (oi := ?o6) (v := ?v6) ?h6 (by kernel_rfl) (by kernel_rfl) (by kernel_rfl) ?q6 (Or.inl ⟨?w6, ?y6⟩) (by assumption) ?r6
  case h6 => (simp only [List.getElem?_toArray, List.getElem?_cons_succ, List.getElem?_cons_zero] <;> rfl)
  case q6 => exact fun _ _ _ h => h
  case w6 => rfl
  case y6 => (intro w hSw; (try dsimp only at hSw); go_simp; (try with_reducible rfl))
  try simp only [Act.put, List.setIfInBounds_toArray, List.set_cons_zero, List.set_cons_succ]
  refine wpAnyH_done (by kernel_rfl) ?_ _
  clear hHeld
  have c32 := g4.2.2
  go_wp2_with fail
  go_loopw [24] (fun i wr => ∃ (k : Nat) (cv : Value) (gs : List Nat), k ≤ ks.length ∧ i = .int .i64 (k : Nat) ∧ GivSt w wr p t d k (.slice A2 d.length c2) cv gs (ks.take k)) (fun i _ => ks.length - (intOf i).toNat)
  case atStart => exact ⟨0, cv, [], Nat.zero_le _, rfl, by simpa using ST0.out⟩
  case round =>
    obtain ⟨k, cv, gs, hk, rfl, st⟩ := hrel
    have HST := Lib.hid st
    clear st
    have hst := HST.out.below.size
    by_cases hlt : k < ks.length
    · obtain ⟨bb, o, rfl, -, hxs⟩ := HKS.out (by rintro rfl; simp at hlt)
      obtain ⟨ka, kb, kc, e0, e1, e2, hkid⟩ := XsAt.get ks bb o k hlt hxs
      have B0 : Below w0.heap.size w0 wr := HB.out.trans (HST.out.below.mono hbs)
      have f0' := cells_one B0 e0
      have f1' := cells_one B0 e1
      have f2' := cells_one B0 e2
      have hgk := Goods.mem hlt HGS.out
      have hcm := cost_mem hlt
      obtain ⟨T1, hT1⟩ : ∃ T1, T1 = ks[k] := ⟨_, rfl⟩
      have hin : T1 ∈ ks := by rw [hT1]; exact List.getElem_mem hlt
      rw [← hT1] at hkid hgk hcm
      have hsnoc : ks.take k ++ [T1] = ks.take (k + 1) := by rw [hT1]; exact (List.take_succ_eq_append_getElem hlt).symm
      have KIH := Lib.hid (HIH.out T1 hin)
      have KID := Lib.hid hkid
      have HSN := Lib.hid hsnoc
      have HB0 := Lib.hid B0
      have HGK := Lib.hid hgk
      obtain ⟨t', d', ks''⟩ := T1
      obtain ⟨xA, xk, yA, yk, rfl, rfl, rfl, -, -, -, -, hby', -⟩ := XAt.shape hkid
      have hcm2 : 8 + d'.length + costs ks'' ≤ 4000 := by rw [cost] at hcm; omega
      simp only [Good] at hgk
      have ht0' := hgk.1
      have ht1' := hgk.2.1
      have hne : 0 < ks.length := by omega
      have hszw : w0.heap.size ≤ wr.heap.size := by omega
      have hppp := lt_of_block HST.out.rec_
      have HBY' := Lib.hid hby'
      have y0 : decide (0 ≤ t') = true := by simpa using ht0'
      have y1 : decide (t' ≤ 65535) = true := by simpa using ht1'
      obtain ⟨W5, hW5⟩ : ∃ W5, W5 = wr.alloc (.cells #[.int .i64 t', .slice xA d'.length xk, .slice yA ks''.length yk] 56) := ⟨_, rfl⟩
      have D5 : Below wr.heap.size wr W5 := by rw [hW5]; exact (Below.refl _ wr).alloc (Nat.le_refl _) _
      have q5 : Three W5 wr.heap.size (.int .i64 t') (.slice xA d'.length xk) (.slice yA ks''.length yk) := by rw [hW5]; exact three_new wr _ _ _ _
      have Q5 := Lib.hid q5
      have HD5 := Lib.hid D5
      have HW5 := Lib.hid hW5
      have z5 := D5.size
      have hcvl : ∀ b, cv.ownBlock = some b → b < wr.heap.size := fun b e => own_lt HST.out.own e
      have HCVL := Lib.hid hcvl
      clear hxs e0 e1 e2 hkid hT1 hin hsnoc B0 D5 q5 hW5 hgk hby' hcm hcvl
      by_cases hkz : ks'' = []
      · subst hkz
        go_wp2_with fail
        have hw5 := HW5.out
        rw [List.length_nil] at hw5
        rw [← hw5]
        clear hw5
        refine wp_region_held_drew (S := fun w' => w'.cell? ⟨wr.heap.size, 0, none⟩ = some (.int .i64 t') ∧ w'.cell? ⟨wr.heap.size, 1, none⟩ = some (.slice xA d'.length xk)) (by kernel_rfl) ⟨Q5.out.1, Q5.out.2.1⟩ (fun hHeld => ?_)
        refine wpAnyH_take (i := 0) (oi := ?o0A) (v := ?v0A) ?h0A (by kernel_rfl) (by kernel_rfl) (by kernel_rfl) ?q0A (Or.inl ⟨?w0A, ?y0A⟩) (by assumption) ?r0A
        case h0A => (simp only [List.getElem?_toArray, List.getElem?_cons_succ, List.getElem?_cons_zero] <;> rfl)
        case q0A => exact fun _ _ _ h => h
        case w0A => rfl
        case y0A => (intro w hSw; (try dsimp only at hSw); go_simp; (try with_reducible rfl))
        try simp only [Act.put, List.setIfInBounds_toArray, List.set_cons_zero, List.set_cons_succ]
        refine wpAnyH_take (i := 1) (oi := ?o1A) (v := ?v1A) ?h1A (by kernel_rfl) (by kernel_rfl) (by kernel_rfl) ?q1A (Or.inl ⟨?w1A, ?y1A⟩) (by assumption) ?r1A
        case h1A => (simp only [List.getElem?_toArray, List.getElem?_cons_succ, List.getElem?_cons_zero] <;> rfl)
        case q1A => exact fun _ _ _ h => h
        case w1A => rfl
        case y1A => (intro w hSw; (try dsimp only at hSw); go_simp; (try with_reducible rfl))
        try simp only [Act.put, List.setIfInBounds_toArray, List.set_cons_zero, List.set_cons_succ]
        refine wpAnyH_take (i := 2) (oi := ?o2A) (v := ?v2A) ?h2A (by kernel_rfl) (by kernel_rfl) (by kernel_rfl) ?q2A (Or.inl ⟨?w2A, ?y2A⟩) (by assumption) ?r2A
        case h2A => (simp only [List.getElem?_toArray, List.getElem?_cons_succ, List.getElem?_cons_zero] <;> rfl)
        case q2A => exact fun _ _ _ h => h
        case w2A => rfl
        case y2A => (intro w hSw; (try dsimp only at hSw); go_simp; (try with_reducible rfl))
        try simp only [Act.put, List.setIfInBounds_toArray, List.set_cons_zero, List.set_cons_succ]
        refine wpAnyH_take (i := 3) (oi := ?o3A) (v := ?v3A) ?h3A (by kernel_rfl) (by kernel_rfl) (by kernel_rfl) ?q3A (Or.inl ⟨?w3A, ?y3A⟩) (by assumption) ?r3A
        case h3A => (simp only [List.getElem?_toArray, List.getElem?_cons_succ, List.getElem?_cons_zero] <;> rfl)
        case q3A => exact fun _ _ _ h => h
        case w3A => rfl
        case y3A => (intro w hSw; (try dsimp only at hSw); go_simp; (try with_reducible rfl))
        try simp only [Act.put, List.setIfInBounds_toArray, List.set_cons_zero, List.set_cons_succ]
        refine wpAnyH_take (i := 4) (oi := ?o4A) (v := ?v4A) ?h4A (by kernel_rfl) (by kernel_rfl) (by kernel_rfl) ?q4A (Or.inl ⟨?w4A, ?y4A⟩) (by assumption) ?r4A
        case h4A => (simp only [List.getElem?_toArray, List.getElem?_cons_succ, List.getElem?_cons_zero] <;> rfl)
        case q4A => exact fun _ _ _ h => h
        case w4A => rfl
        case y4A => (intro w hSw; (try dsimp only at hSw); go_simp; (try with_reducible rfl))
        try simp only [Act.put, List.setIfInBounds_toArray, List.set_cons_zero, List.set_cons_succ]
        refine wpAnyH_ready (rs := [5]) (by kernel_rfl) (by simp) ?_
        refine AllReadyH.cons (o := ?o5A) ?h5A (fun K hK => ?_) AllReadyH.nil
        case h5A => (simp only [List.getElem?_toArray, List.getElem?_cons_succ, List.getElem?_cons_zero] <;> rfl)
        go_simp
        refine (clone_bytes xA d'.length xk (bytesC d') _ ((HBY'.out.below (HB0.out.trans (HD5.out.drew.mono hszw))).rd) (bytesC_length d') (by omega) (bytesC_one _) HBY'.out.nil0).mono ?_
        rintro e u1 ⟨v1, rfl, ho1, -, hbu1⟩
        have E1 : Below wr.heap.size wr u1 := below_trans HD5.out.drew hbu1
        have g3 := Q5.out.below (below_trans (Below.refl _ _).drew hbu1)
        have hf1 := own_bytesF ho1
        obtain ⟨A1, c1, rfl, -, -, -⟩ := Rd.of_own ho1
        have HF1 := Lib.hid hf1
        have HE1 := Lib.hid E1
        have zu1 := E1.size
        clear ho1 hbu1 E1 hf1
        refine hK.out _ _ ?s5A (fun hHeld => ?_)
        case s5A => exact ⟨g3.1, g3.2.1⟩
        clear hK K
        try simp only [Act.put, List.setIfInBounds_toArray, List.set_cons_zero, List.set_cons_succ]
        refine wpAnyH_ready (rs := [6]) (by kernel_rfl) (by simp) ?_
        refine AllReadyH.cons (o := ?o6A) ?h6A (fun K hK => ?_) AllReadyH.nil
        case h6A => (simp only [List.getElem?_toArray, List.getElem?_cons_succ, List.getElem?_cons_zero] <;> rfl)
        go_simp
        have st1 := HST.out.later HE1.out
        refine (addRtAttr_calls w.heap.size p t _ cv k _ t' A1 d'.length c1 u1 ⟨ht0', ht1'⟩ st1.rec_ st1.own st1.lo (by omega) (by omega)).mono ?_
        rintro e u2 ⟨g, u3, cvn, rfl, hbu3, hg0, hgx, hgo, hadd⟩
        have zu3 := hbu3.size
        have rat : RAt u3 (fun b => wr.heap.size ≤ b ∧ b < u3.heap.size) g (.node t' d' []) := by
          simp only [RAt]
          obtain ⟨Ac, cc, rfl, -, -, -⟩ := Rd.of_own hgo
          refine ⟨⟨by omega, lt_of_block hgx⟩, _, _, hgx, HF1.out.keep fun b hF => ⟨hbu3.block b hF.2, by have h1 := hF.1; simp at h1; omega, by have h1 := hF.2; omega⟩, Ac, cc, rfl, Nat.zero_le _, fun h => absurd rfl h⟩
        obtain ⟨cv', st3⟩ := (st1.later hbu3).next (w0 := wr) rat hst hppp HCVL.out hadd
        rw [HSN.out] at st3
        have ST3 := Lib.hid st3
        have g4 : Three u2 wr.heap.size (.int .i64 t') (.slice xA d'.length xk) (.slice yA 0 yk) := by
          obtain ⟨A', c', a1, a2, a3, a4, a5, a6⟩ := hadd
          have g3b := g3.below hbu3
          have hlt1 : wr.heap.size < u1.heap.size := World.block_lt_of_cell? u1 _ g3.1
          have hb : u2.heap[wr.heap.size]? = u3.heap[wr.heap.size]? := a3 _ (by omega) (by omega) (fun e => by have := HCVL.out _ e; omega)
          exact ⟨(World.cell?_of_block (a := ⟨wr.heap.size, 0, none⟩) hb).trans g3b.1, (World.cell?_of_block (a := ⟨wr.heap.size, 1, none⟩) hb).trans g3b.2.1, (World.cell?_of_block (a := ⟨wr.heap.size, 2, none⟩) hb).trans g3b.2.2⟩
        clear hbu3 hgx hgo hadd rat st1 st3
        refine hK.out _ _ ?s6A (fun hHeld => ?_)
        case s6A => exact ⟨g4.1, g4.2.1⟩
        clear hK K
        try simp only [Act.put, List.setIfInBounds_toArray, List.set_cons_zero, List.set_cons_succ]
        refine wpAnyH_done (by kernel_rfl) ?_ _
        clear hHeld
        go_wp2_with fail
        go_roundw
        case rel => exact ⟨k + 1, cv', _, by omega, by go_num, ST3.out⟩
        case measure => simp [intOf]; omega
      · have hkz' : ((ks''.length : Int) == 0) = false := by rw [beq_eq_false_iff_ne]; have := List.length_pos_iff.2 hkz; omega
        go_wp2_with fail
        rw [← HW5.out]
        refine (KIH.out W5 _ _ _ KID.out (HB0.out.trans (HD5.out.mono hszw)) HGK.out (by rw [cost]; exact hcm2)).mono ?_
        rintro e u1 ⟨g, rfl, hrat, hbu1⟩
        have E1 : Below wr.heap.size wr u1 := below_trans HD5.out hbu1
        have zu1 := E1.size
        have st1 := HST.out.later E1
        have rat := RAt.keep (F' := fun b => wr.heap.size ≤ b ∧ b < u1.heap.size) (fun b hF => ⟨rfl, by omega, hF.2⟩) _ _ hrat
        have ac := addChild_calls w.heap.size p g t _ cv k _ u1 st1.rec_ st1.own st1.lo (by omega) (by omega)
        have ST1 := Lib.hid st1
        have RATT := Lib.hid rat
        have AC := Lib.hid ac
        clear hrat hbu1 E1 st1 rat ac
        go_wp2_with fail
        refine AC.out.mono ?_
        rintro e u2 ⟨rfl, hadd⟩
        obtain ⟨cv', st3⟩ := ST1.out.next (w0 := wr) RATT.out hst hppp HCVL.out hadd
        rw [HSN.out] at st3
        have ST3 := Lib.hid st3
        clear hadd st3
        go_wp2_with fail
        go_roundw
        case rel => exact ⟨k + 1, cv', _, by omega, by go_num, ST3.out⟩
        case measure => simp [intOf]; omega
    · have hkk : k = ks.length := by omega
      subst hkk
      have st := HST.out
      rw [List.take_length] at st
      have DONE := Lib.hid st.done
      have HBL := Lib.hid st.below
      clear st
      go_wp2_with fail
      go_ret
      exact ⟨p, rfl, DONE.out, HBL.out⟩

/-- The attribute that is built, of whatever depth. -/
theorem given_calls (w0 : World) : ∀ T : Tree, GivenCalls w0 T
  | .node t d ks => given_step w0 t d ks (fun x _ => given_calls w0 x)
termination_by T => SizeOf.sizeOf T
decreasing_by
  rename_i h
  have := List.sizeOf_lt_of_mem h
  simp
  omega
end Go.Proofs.Ytbogknjgjbhagaa
