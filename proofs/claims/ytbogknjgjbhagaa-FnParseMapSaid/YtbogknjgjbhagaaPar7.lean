/- The thin package's reading of attributes, as far as they can be read. -/
import Derived.Test.YtbogknjgjbhagaaPar6
namespace Go.Proofs.Ytbogknjgjbhagaa
open Go.RowKit
set_option linter.unusedSimpArgs false

theorem Try.enter55 (args : Array Value) (w : World) : (callFunc 55 args).run Try.prog w = .ok (.enter 55 args) w := by kernel_rfl

theorem BytesAt.rd {w : World} {A : Option Addr} {n c : Nat} {d : List Int} (h : BytesAt w (.slice A n c) d) : Rd w A (bytesC d) := by
  obtain ⟨A', c', e, -, h3, -⟩ := h
  injection e with e1 _ _
  rw [e1]; exact h3
theorem BytesAt.nil0 {w : World} {A : Option Addr} {n c : Nat} {d : List Int} (h : BytesAt w (.slice A n c) d) : A = none → n = 0 := fun hA => by
  obtain ⟨A', c', e, -, -, h4⟩ := h
  injection e with e1 e2 _
  rw [e2, h4 (by rw [← e1]; exact hA)]; rfl

/-- Record k of a list of the package's attributes. -/
theorem attr_at {w : World} {A : Option Addr} {hs : List (Int × Value)} {l : List (Int × List Int)} (hr : Rd w A (fl attrH hs)) (hm : Match w hs l) (k : Nat) (hk : k < l.length) :
    ∃ b o v, A = some ⟨b, o, none⟩ ∧ w.cell? ⟨b, o + k * 2, none⟩ = some (.int .u16 l[k].1) ∧ w.cell? ⟨b, o + k * 2 + 1, none⟩ = some v ∧ BytesAt w v l[k].2 := by
  have hk2 : k < hs.length := by rw [hm.1]; exact hk
  have e : hs[k]? = some hs[k] := List.getElem?_eq_getElem hk2
  obtain ⟨h1, h2⟩ := hm.2 k hs[k] l[k] e (List.getElem?_eq_getElem hk)
  obtain ⟨b, o, rfl, hc⟩ := hr (by
    intro h
    have := congrArg List.length h
    rw [fl_length attrH 2 attrH_length] at this
    rw [List.length_nil] at this; omega)
  have c0 := hc (k * 2 + 0) (.int .u16 hs[k].1) (by rw [fl_get attrH 2 attrH_length hs k 0 _ e (by decide)]; rfl)
  have c1 := hc (k * 2 + 1) hs[k].2 (by rw [fl_get attrH 2 attrH_length hs k 1 _ e (by decide)]; rfl)
  exact ⟨b, o, hs[k].2, rfl, by rw [← h1]; exact c0, c1, h2⟩

set_option maxHeartbeats 2000000 in
set_option maxRecDepth 100000 in
theorem all1_calls (bb ob : Nat) (A : Option Addr) (n c : Nat) (l : List (Int × List Int)) (w : World) (hbb : w.heap[bb]? = some (.cells #[.slice A n c] 31 (0, 0))) (hob : w.heap[ob]? = some (.cells #[.slice none 0 0] 41 (0, 0)))
    (hr : Rd w A (bytesC (listB l))) (hn : n = (listB l).length) (hA : A = none → n = 0) (hok : ∀ x ∈ l, AttrOk x) (hb : ∀ x ∈ l, AllB x.2) (h20 : l.length ≤ 20) (hbig : n ≤ 1000000) :
    Calls Try.prog 55 #[.pointer (some ⟨bb, 0, none⟩), .pointer (some ⟨ob, 0, none⟩)] w fun e w' => e = .returned (.bool true) ∧ w.grownBy w' (some ob) ∧ OutAt w' w.heap.size ob l := by
  have cb := cell_of_one hbb
  have lob := lt_of_block hob
  have HR := Lib.hid hr
  have HN := Lib.hid hn
  have HA := Lib.hid hA
  have HOK := Lib.hid hok
  have HAB := Lib.hid hb
  have HOB := Lib.hid hob
  clear hr hn hok hb hbb hA hob
  go_enter Try.func55, Try.ntmps55
  go_wp2_with fail
  refine (clone_bytes A n c (bytesC (listB l)) w HR.out (by rw [bytesC_length]; exact HN.out.symm) (by omega) (bytesC_one _) HA.out).mono ?_
  rintro e w1 ⟨v1, rfl, hown1, hnil1, hb1⟩
  obtain ⟨A1, k1, rfl, hk1, hr1, hn1⟩ := Rd.of_own hown1
  have HR1 := Lib.hid hr1
  have HB1 := Lib.hid hb1
  clear hown1 hnil1 hr1 hn1 hb1
  go_wp2_with fail
  refine (parseAttributes_calls A1 n k1 l w1 HR1.out HN.out hk1 HOK.out HAB.out h20 hbig).mono ?_
  rintro e w2 ⟨v2, rfl, ⟨hs2, hown2, hm2⟩, hb2⟩
  obtain ⟨A2, c2, rfl, hc2, hr2, -⟩ := Rd.of_own hown2
  have hne2 : ∀ b o, A2 = some ⟨b, o, none⟩ → b ≠ ob := fun b o e h => by
    have h1 := (hown2.lt b (by rw [e]; rfl)).1
    have h2 := HB1.out.size
    omega
  have HNE := Lib.hid hne2
  have B2 := below_trans HB1.out hb2
  have hsz2 := B2.size
  have HB2 := Lib.hid B2
  have HR2 := Lib.hid hr2
  have HM2 := Lib.hid hm2
  have HOB2 := Lib.hid ((B2.block ob lob).trans HOB.out)
  clear hb2 hown2 hr2 hm2 B2 hne2
  go_wp2_with fail
  have lob2 : ob < w2.heap.size := by omega
  go_loopw [9] (fun i wr => ∃ k : Nat, k ≤ l.length ∧ i = .int .i64 k ∧ OutAt wr w2.heap.size ob (l.take k) ∧ w2.grownBy wr (some ob)) (fun i _ => l.length - (intOf i).toNat)
  case atStart => exact ⟨0, Nat.zero_le _, rfl, ⟨_, [], HOB2.out, World.ownsRow_nil _ _ _ _, by simp [MatchO]⟩, World.grownBy.refl _ _⟩
  case round =>
    obtain ⟨k, hk, rfl, hout, hg⟩ := hrel
    have hszr := hg.size
    by_cases hlt : k < l.length
    · obtain ⟨b, o, v, rfl, e1, e2, e3⟩ := attr_at HR2.out HM2.out k hlt
      obtain ⟨vo, hs, hv, hown, hm⟩ := hout
      obtain ⟨Av, cv, rfl, -, -, -⟩ := Rd.of_own hown
      obtain ⟨nv, hnv⟩ : ∃ nv, nv = (l.take k).length := ⟨_, rfl⟩
      rw [← hnv] at hown hv
      have hbne : b ≠ ob := HNE.out b o rfl
      have f1 := cell_except hg HOB2.out e1 (fun e => absurd e hbne)
      have f2 := cell_except hg HOB2.out e2 (fun e => absurd e hbne)
      have hval := e3.except hg HOB2.out
      have hmem : l[k] ∈ l := List.getElem_mem hlt
      have hxo := HOK.out _ hmem
      have hsnoc : l.take k ++ [l[k]] = l.take (k + 1) := (List.take_succ_eq_append_getElem hlt).symm
      obtain ⟨x, hx⟩ : ∃ x, x = l[k] := ⟨_, rfl⟩
      rw [← hx] at f1 hval hxo hsnoc
      obtain ⟨T, d⟩ := x
      simp only [AttrOk] at f1 hval hxo
      obtain ⟨Ax, cx, rfl, hval2⟩ := hval
      have hval : BytesAt wr (.slice Ax d.length cx) d := ⟨Ax, cx, rfl, hval2⟩
      have HVAL := Lib.hid hval
      have HX := Lib.hid hsnoc
      have HG := Lib.hid hg
      have HOWN := Lib.hid hown
      have HM := Lib.hid hm
      have HVV := Lib.hid hv
      have HNV := Lib.hid hnv
      have hne : 0 < l.length := by omega
      have lobr := lt_of_block hv
      clear hval hval2 hsnoc hx hmem e1 e2 e3 hg hown hm hv hnv
      go_wp2_with fail
      obtain ⟨W0, hW0⟩ : ∃ W0, W0 = wr.alloc (.cells #[.int .u16 T, .slice Ax d.length cx] 80) := ⟨_, rfl⟩
      have D0 : Below wr.heap.size wr W0 := by rw [hW0]; exact (Below.refl _ wr).alloc (Nat.le_refl _) _
      have g0 : W0.heap[wr.heap.size]? = some (.cells #[.int .u16 T, .slice Ax d.length cx] 80 (0, 0)) := by rw [hW0]; exact heap_alloc_new wr _
      rw [← hW0]
      have lob0 : ob < W0.heap.size := by have := D0.size; omega
      have lg0 := lt_of_block g0
      have hv0 := (D0.block ob lobr).trans HVV.out
      have cb0 := cell_of_one hv0
      have HV0 := Lib.hid hv0
      have HR0 := Lib.hid (own_below HOWN.out D0)
      have HM0 := Lib.hid (HM.out.below D0)
      have G0 := Lib.hid g0
      have HD0 := Lib.hid D0
      have VAL0 := Lib.hid (HVAL.out.below D0)
      have KS : Hid (∀ W : World, W.heap[wr.heap.size]? = some (.cells #[.int .u16 T, .slice Ax d.length cx] 80 (0, 0)) → W.cell? ⟨wr.heap.size, 0, none⟩ = some (.int .u16 T) ∧ W.cell? ⟨wr.heap.size, 1, none⟩ = some (.slice Ax d.length cx)) := fun W h =>
        ⟨(cell_of_row _ _ 0 _ _ (0, 0) h).trans rfl, (cell_of_row _ _ 1 _ _ (0, 0) h).trans rfl⟩
      have hneg : wr.heap.size ≠ ob := by omega
      clear hW0 D0 g0 hv0 f1 f2
      have wT : IntKind.i64.wrap T = T := IntWalk.i64_in _ (by omega)
      refine wp_region_held_drew (S := fun w' => w'.cell? ⟨wr.heap.size, 0, none⟩ = some (.int .u16 T) ∧ w'.cell? ⟨wr.heap.size, 1, none⟩ = some (.slice Ax d.length cx)) (by kernel_rfl) (KS.out _ G0.out) (fun hHeld => ?_)
      refine wpAnyH_take (i := 1) (oi := ?o1) (v := ?v1) ?h1 (by kernel_rfl) (by kernel_rfl) (by kernel_rfl) ?q1 (Or.inl ⟨?w1, ?y1⟩) (by assumption) ?r1
      case h1 => (simp only [List.getElem?_toArray, List.getElem?_cons_succ, List.getElem?_cons_zero] <;> rfl)
      case q1 => exact fun _ _ _ h => h
      case w1 => rfl
      case y1 => (intro w hSw; (try dsimp only at hSw); go_simp; (try with_reducible rfl))
      try simp only [Act.put, List.setIfInBounds_toArray, List.set_cons_zero, List.set_cons_succ]
      refine wpAnyH_take (i := 2) (oi := ?o2) (v := ?v2) ?h2 (by kernel_rfl) (by kernel_rfl) (by kernel_rfl) ?q2 (Or.inl ⟨?w2, ?y2⟩) (by assumption) ?r2
      case h2 => (simp only [List.getElem?_toArray, List.getElem?_cons_succ, List.getElem?_cons_zero] <;> rfl)
      case q2 => exact fun _ _ _ h => h
      case w2 => rfl
      case y2 => (intro w hSw; (try dsimp only at hSw); go_simp; (try with_reducible rfl))
      try simp only [Act.put, List.setIfInBounds_toArray, List.set_cons_zero, List.set_cons_succ]
      refine wpAnyH_take (i := 3) (oi := ?o3) (v := ?v3) ?h3 (by kernel_rfl) (by kernel_rfl) (by kernel_rfl) ?q3 (Or.inl ⟨?w3, ?y3⟩) (by assumption) ?r3
      case h3 => (simp only [List.getElem?_toArray, List.getElem?_cons_succ, List.getElem?_cons_zero] <;> rfl)
      case q3 => exact fun _ _ _ h => h
      case w3 => rfl
      case y3 => (intro w hSw; (try dsimp only at hSw); go_simp; (try with_reducible rfl))
      try simp only [Act.put, List.setIfInBounds_toArray, List.set_cons_zero, List.set_cons_succ]
      refine wpAnyH_take (i := 4) (oi := ?o4) (v := ?v4) ?h4 (by kernel_rfl) (by kernel_rfl) (by kernel_rfl) ?q4 (Or.inl ⟨?w4, ?y4⟩) (by assumption) ?r4
      case h4 => (simp only [List.getElem?_toArray, List.getElem?_cons_succ, List.getElem?_cons_zero] <;> rfl)
      case q4 => exact fun _ _ _ h => h
      case w4 => rfl
      case y4 => (intro w hSw; (try dsimp only at hSw); go_simp; (try with_reducible rfl))
      try simp only [Act.put, List.setIfInBounds_toArray, List.set_cons_zero, List.set_cons_succ]
      refine wpAnyH_take (i := 5) (oi := ?o5) (v := ?v5) ?h5 (by kernel_rfl) (by kernel_rfl) (by kernel_rfl) ?q5 (Or.inl ⟨?w5, ?y5⟩) (by assumption) ?r5
      case h5 => (simp only [List.getElem?_toArray, List.getElem?_cons_succ, List.getElem?_cons_zero] <;> rfl)
      case q5 => exact fun _ _ _ h => h
      case w5 => rfl
      case y5 => (intro w hSw; (try dsimp only at hSw); go_simp; (try with_reducible rfl))
      try simp only [Act.put, List.setIfInBounds_toArray, List.set_cons_zero, List.set_cons_succ]
      refine wpAnyH_ready (rs := [0, 6]) (by kernel_rfl) (by simp) ?_
      refine AllReadyH.cons (o := ?o0) ?h0 (fun K hK => ?br0) (AllReadyH.cons (o := ?o6) ?h6 (fun K hK => ?br6) (AllReadyH.nil))
      case h0 => (simp only [List.getElem?_toArray, List.getElem?_cons_succ, List.getElem?_cons_zero] <;> rfl)
      case h6 => (simp only [List.getElem?_toArray, List.getElem?_cons_succ, List.getElem?_cons_zero] <;> rfl)
      case br0 =>
        go_simp
        refine hK.out _ _ ?s0A (fun hHeld => ?_)
        case s0A => exact KS.out _ G0.out
        clear hK K
        try simp only [Act.put, List.setIfInBounds_toArray, List.set_cons_zero, List.set_cons_succ]
        refine wpAnyH_ready (rs := [6]) (by kernel_rfl) (by simp) ?_
        refine AllReadyH.cons (o := ?o6A) ?h6A (fun K hK => ?_) AllReadyH.nil
        case h6A => (simp only [List.getElem?_toArray, List.getElem?_cons_succ, List.getElem?_cons_zero] <;> rfl)
        go_simp
        refine (clone_bytes Ax d.length cx (bytesC d) _ ((VAL0.out.below (Below.refl _ _).drew).rd) (bytesC_length d) (by omega) (bytesC_one _) VAL0.out.nil0).mono ?_
        rintro e w4 ⟨v4, rfl, ho4, -, hb4⟩
        have D4 : Below W0.heap.size W0 w4 := below_trans (Below.refl _ _).drew hb4
        have z4 := D4.size
        obtain ⟨A4, c4, rfl, -, -, -⟩ := Rd.of_own ho4
        have hv4 := (D4.block ob lob0).trans HV0.out
        have cb4 := cell_of_one hv4
        have HO4 := Lib.hid (own_below HR0.out D4)
        have HM4 := Lib.hid (HM0.out.below D4)
        have HB4 := Lib.hid (own_lower ho4 (show w2.heap.size ≤ _ by simp; omega))
        have HG4 := Lib.hid ((D4.block wr.heap.size lg0).trans G0.out)
        have HD4 := Lib.hid D4
        have HV4 := Lib.hid hv4
        clear ho4 hb4 hv4 D4
        refine hK.out _ _ ?s6A (fun hHeld => ?_)
        case s6A => exact KS.out _ HG4.out
        clear hK K
        try simp only [Act.put, List.setIfInBounds_toArray, List.set_cons_zero, List.set_cons_succ]
        refine wpAnyH_take (i := 7) (oi := ?o7A) (v := ?v7A) ?h7A (by kernel_rfl) (by kernel_rfl) (by kernel_rfl) ?q7A (Or.inl ⟨?w7A, ?y7A⟩) (by assumption) ?r7A
        case h7A => (simp only [List.getElem?_toArray, List.getElem?_cons_succ, List.getElem?_cons_zero] <;> rfl)
        case q7A => exact fun _ _ _ h => h
        case w7A => rfl
        case y7A => (intro w hSw; (try dsimp only at hSw); go_simp; (try with_reducible rfl))
        try simp only [Act.put, List.setIfInBounds_toArray, List.set_cons_zero, List.set_cons_succ]
        refine wpAnyH_ready (rs := [8]) (by kernel_rfl) (by simp) ?_
        refine AllReadyH.cons (o := ?o8A) ?h8A (fun K hK => ?_) AllReadyH.nil
        case h8A => (simp only [List.getElem?_toArray, List.getElem?_cons_succ, List.getElem?_cons_zero] <;> rfl)
        go_simp
        have D5 : Below w4.heap.size w4 (w4.alloc (.cells #[.int .i64 T, .slice A4 d.length c4] 52)) := (Below.refl _ _).alloc (Nat.le_refl _) _
        refine hK.out _ _ ?s8A (fun hHeld => ?_)
        case s8A => exact KS.out _ ((D5.block wr.heap.size (lt_of_block HG4.out)).trans HG4.out)
        clear hK K
        try simp only [Act.put, List.setIfInBounds_toArray, List.set_cons_zero, List.set_cons_succ]
        refine wpAnyH_ready (rs := [9]) (by kernel_rfl) (by simp) ?_
        refine AllReadyH.cons (o := ?o9A) ?h9A (fun K hK => ?_) AllReadyH.nil
        case h9A => (simp only [List.getElem?_toArray, List.getElem?_cons_succ, List.getElem?_cons_zero] <;> rfl)
        obtain ⟨A6, c6, w6, hrun, q1, q2, q3, q4, q5⟩ := out_append w2.heap.size ob (.slice Av nv cv) hs (l.take k) (T, .slice A4 d.length c4) (T, d) (w4.alloc (.cells #[.int .i64 T, .slice A4 d.length c4] 52)) ((D5.block ob (lt_of_block HV4.out)).trans HV4.out) (by rw [← HNV.out]; exact own_below HO4.out D5) (HM4.out.below D5) rfl (own_below HB4.out D5) w4.heap.size (cell_two_new w4 _ _ _) (by rw [List.length_take]; omega) (by simp; omega) lob2
        refine wp_app (Operand.tmp 13) (Operand.tmp 21) 41 rfl rfl rfl hrun ?_
        have Q3 := Lib.hid q3
        have Q4 := Lib.hid q4
        have g6 := q5 _ _ _ _ ((D5.block wr.heap.size (lt_of_block HG4.out)).trans HG4.out) (by decide)
        have G6 := Lib.hid g6
        refine hK.out _ _ ?s9A (fun hHeld => ?_)
        case s9A => exact KS.out _ g6
        clear hK K
        try simp only [Act.put, List.setIfInBounds_toArray, List.set_cons_zero, List.set_cons_succ]
        clear q3 q4 q5 g6 hrun D5
        refine wpAnyH_ready (rs := [10]) (by kernel_rfl) (by simp) ?_
        refine AllReadyH.cons (o := ?o10A) ?h10A (fun K hK => ?_) AllReadyH.nil
        case h10A => (simp only [List.getElem?_toArray, List.getElem?_cons_succ, List.getElem?_cons_zero] <;> rfl)
        go_simp
        refine hK.out _ _ ?s10A (fun hHeld => ?_)
        case s10A => exact KS.out _ ((Below.heap_setCell _ _ _ _ (by simp; omega)).trans G6.out)
        clear hK K
        try simp only [Act.put, List.setIfInBounds_toArray, List.set_cons_zero, List.set_cons_succ]
        refine wpAnyH_done (by kernel_rfl) ?_ _
        go_wp2_with fail
        go_roundw
        case rel =>
          refine ⟨k + 1, by omega, by go_num, ?_, ?_⟩
          · have h := Q3.out
            rw [HX.out, List.length_take, Nat.min_eq_left hk] at h
            exact h
          · have h := Q4.out w2 (grown_trans HG.out (below_row (below_trans (below_trans HD0.out HD4.out) ((Below.refl _ w4).alloc (Nat.le_refl _) (.cells #[.int .i64 T, .slice A4 d.length c4] 52))) (some ob))) (Nat.le_refl _)
            rw [List.length_take, Nat.min_eq_left hk] at h
            exact h
        case measure => simp [intOf]; omega
      case br6 =>
        go_simp
        refine (clone_bytes Ax d.length cx (bytesC d) _ ((VAL0.out.below (Below.refl _ _).drew).rd) (bytesC_length d) (by omega) (bytesC_one _) VAL0.out.nil0).mono ?_
        rintro e w4 ⟨v4, rfl, ho4, -, hb4⟩
        have D4 : Below W0.heap.size W0 w4 := below_trans (Below.refl _ _).drew hb4
        have z4 := D4.size
        obtain ⟨A4, c4, rfl, -, -, -⟩ := Rd.of_own ho4
        have hv4 := (D4.block ob lob0).trans HV0.out
        have cb4 := cell_of_one hv4
        have HO4 := Lib.hid (own_below HR0.out D4)
        have HM4 := Lib.hid (HM0.out.below D4)
        have HB4 := Lib.hid (own_lower ho4 (show w2.heap.size ≤ _ by simp; omega))
        have HG4 := Lib.hid ((D4.block wr.heap.size lg0).trans G0.out)
        have HD4 := Lib.hid D4
        have HV4 := Lib.hid hv4
        clear ho4 hb4 hv4 D4
        refine hK.out _ _ ?s6B (fun hHeld => ?_)
        case s6B => exact KS.out _ HG4.out
        clear hK K
        try simp only [Act.put, List.setIfInBounds_toArray, List.set_cons_zero, List.set_cons_succ]
        refine wpAnyH_take (i := 7) (oi := ?o7B) (v := ?v7B) ?h7B (by kernel_rfl) (by kernel_rfl) (by kernel_rfl) ?q7B (Or.inl ⟨?w7B, ?y7B⟩) (by assumption) ?r7B
        case h7B => (simp only [List.getElem?_toArray, List.getElem?_cons_succ, List.getElem?_cons_zero] <;> rfl)
        case q7B => exact fun _ _ _ h => h
        case w7B => rfl
        case y7B => (intro w hSw; (try dsimp only at hSw); go_simp; (try with_reducible rfl))
        try simp only [Act.put, List.setIfInBounds_toArray, List.set_cons_zero, List.set_cons_succ]
        refine wpAnyH_ready (rs := [0, 8]) (by kernel_rfl) (by simp) ?_
        refine AllReadyH.cons (o := ?o0B) ?h0B (fun K hK => ?br0B) (AllReadyH.cons (o := ?o8B) ?h8B (fun K hK => ?br8B) (AllReadyH.nil))
        case h0B => (simp only [List.getElem?_toArray, List.getElem?_cons_succ, List.getElem?_cons_zero] <;> rfl)
        case h8B => (simp only [List.getElem?_toArray, List.getElem?_cons_succ, List.getElem?_cons_zero] <;> rfl)
        case br0B =>
          go_simp
          refine hK.out _ _ ?s0C (fun hHeld => ?_)
          case s0C => exact KS.out _ HG4.out
          clear hK K
          try simp only [Act.put, List.setIfInBounds_toArray, List.set_cons_zero, List.set_cons_succ]
          refine wpAnyH_ready (rs := [8]) (by kernel_rfl) (by simp) ?_
          refine AllReadyH.cons (o := ?o8C) ?h8C (fun K hK => ?_) AllReadyH.nil
          case h8C => (simp only [List.getElem?_toArray, List.getElem?_cons_succ, List.getElem?_cons_zero] <;> rfl)
          go_simp
          have D5 : Below w4.heap.size w4 (w4.alloc (.cells #[.int .i64 T, .slice A4 d.length c4] 52)) := (Below.refl _ _).alloc (Nat.le_refl _) _
          refine hK.out _ _ ?s8C (fun hHeld => ?_)
          case s8C => exact KS.out _ ((D5.block wr.heap.size (lt_of_block HG4.out)).trans HG4.out)
          clear hK K
          try simp only [Act.put, List.setIfInBounds_toArray, List.set_cons_zero, List.set_cons_succ]
          refine wpAnyH_ready (rs := [9]) (by kernel_rfl) (by simp) ?_
          refine AllReadyH.cons (o := ?o9C) ?h9C (fun K hK => ?_) AllReadyH.nil
          case h9C => (simp only [List.getElem?_toArray, List.getElem?_cons_succ, List.getElem?_cons_zero] <;> rfl)
          obtain ⟨A6, c6, w6, hrun, q1, q2, q3, q4, q5⟩ := out_append w2.heap.size ob (.slice Av nv cv) hs (l.take k) (T, .slice A4 d.length c4) (T, d) (w4.alloc (.cells #[.int .i64 T, .slice A4 d.length c4] 52)) ((D5.block ob (lt_of_block HV4.out)).trans HV4.out) (by rw [← HNV.out]; exact own_below HO4.out D5) (HM4.out.below D5) rfl (own_below HB4.out D5) w4.heap.size (cell_two_new w4 _ _ _) (by rw [List.length_take]; omega) (by simp; omega) lob2
          refine wp_app (Operand.tmp 13) (Operand.tmp 21) 41 rfl rfl rfl hrun ?_
          have Q3 := Lib.hid q3
          have Q4 := Lib.hid q4
          have g6 := q5 _ _ _ _ ((D5.block wr.heap.size (lt_of_block HG4.out)).trans HG4.out) (by decide)
          have G6 := Lib.hid g6
          refine hK.out _ _ ?s9C (fun hHeld => ?_)
          case s9C => exact KS.out _ g6
          clear hK K
          try simp only [Act.put, List.setIfInBounds_toArray, List.set_cons_zero, List.set_cons_succ]
          clear q3 q4 q5 g6 hrun D5
          refine wpAnyH_ready (rs := [10]) (by kernel_rfl) (by simp) ?_
          refine AllReadyH.cons (o := ?o10C) ?h10C (fun K hK => ?_) AllReadyH.nil
          case h10C => (simp only [List.getElem?_toArray, List.getElem?_cons_succ, List.getElem?_cons_zero] <;> rfl)
          go_simp
          refine hK.out _ _ ?s10C (fun hHeld => ?_)
          case s10C => exact KS.out _ ((Below.heap_setCell _ _ _ _ (by simp; omega)).trans G6.out)
          clear hK K
          try simp only [Act.put, List.setIfInBounds_toArray, List.set_cons_zero, List.set_cons_succ]
          refine wpAnyH_done (by kernel_rfl) ?_ _
          go_wp2_with fail
          go_roundw
          case rel =>
            refine ⟨k + 1, by omega, by go_num, ?_, ?_⟩
            · have h := Q3.out
              rw [HX.out, List.length_take, Nat.min_eq_left hk] at h
              exact h
            · have h := Q4.out w2 (grown_trans HG.out (below_row (below_trans (below_trans HD0.out HD4.out) ((Below.refl _ w4).alloc (Nat.le_refl _) (.cells #[.int .i64 T, .slice A4 d.length c4] 52))) (some ob))) (Nat.le_refl _)
              rw [List.length_take, Nat.min_eq_left hk] at h
              exact h
          case measure => simp [intOf]; omega
        case br8B =>
          go_simp
          have D5 : Below w4.heap.size w4 (w4.alloc (.cells #[.int .i64 T, .slice A4 d.length c4] 52)) := (Below.refl _ _).alloc (Nat.le_refl _) _
          have cb5 := cells_one D5 cb4
          refine hK.out _ _ ?s8D (fun hHeld => ?_)
          case s8D => exact KS.out _ ((D5.block wr.heap.size (lt_of_block HG4.out)).trans HG4.out)
          clear hK K
          try simp only [Act.put, List.setIfInBounds_toArray, List.set_cons_zero, List.set_cons_succ]
          refine wpAnyH_ready (rs := [0]) (by kernel_rfl) (by simp) ?_
          refine AllReadyH.cons (o := ?o0D) ?h0D (fun K hK => ?_) AllReadyH.nil
          case h0D => (simp only [List.getElem?_toArray, List.getElem?_cons_succ, List.getElem?_cons_zero] <;> rfl)
          go_simp
          refine hK.out _ _ ?s0D (fun hHeld => ?_)
          case s0D => exact KS.out _ ((D5.block wr.heap.size (lt_of_block HG4.out)).trans HG4.out)
          clear hK K
          try simp only [Act.put, List.setIfInBounds_toArray, List.set_cons_zero, List.set_cons_succ]
          refine wpAnyH_ready (rs := [9]) (by kernel_rfl) (by simp) ?_
          refine AllReadyH.cons (o := ?o9D) ?h9D (fun K hK => ?_) AllReadyH.nil
          case h9D => (simp only [List.getElem?_toArray, List.getElem?_cons_succ, List.getElem?_cons_zero] <;> rfl)
          obtain ⟨A6, c6, w6, hrun, q1, q2, q3, q4, q5⟩ := out_append w2.heap.size ob (.slice Av nv cv) hs (l.take k) (T, .slice A4 d.length c4) (T, d) (w4.alloc (.cells #[.int .i64 T, .slice A4 d.length c4] 52)) ((D5.block ob (lt_of_block HV4.out)).trans HV4.out) (by rw [← HNV.out]; exact own_below HO4.out D5) (HM4.out.below D5) rfl (own_below HB4.out D5) w4.heap.size (cell_two_new w4 _ _ _) (by rw [List.length_take]; omega) (by simp; omega) lob2
          refine wp_app (Operand.tmp 13) (Operand.tmp 21) 41 rfl rfl rfl hrun ?_
          have Q3 := Lib.hid q3
          have Q4 := Lib.hid q4
          have g6 := q5 _ _ _ _ ((D5.block wr.heap.size (lt_of_block HG4.out)).trans HG4.out) (by decide)
          have G6 := Lib.hid g6
          refine hK.out _ _ ?s9D (fun hHeld => ?_)
          case s9D => exact KS.out _ g6
          clear hK K
          try simp only [Act.put, List.setIfInBounds_toArray, List.set_cons_zero, List.set_cons_succ]
          clear q3 q4 q5 g6 hrun D5
          refine wpAnyH_ready (rs := [10]) (by kernel_rfl) (by simp) ?_
          refine AllReadyH.cons (o := ?o10D) ?h10D (fun K hK => ?_) AllReadyH.nil
          case h10D => (simp only [List.getElem?_toArray, List.getElem?_cons_succ, List.getElem?_cons_zero] <;> rfl)
          go_simp
          refine hK.out _ _ ?s10D (fun hHeld => ?_)
          case s10D => exact KS.out _ ((Below.heap_setCell _ _ _ _ (by simp; omega)).trans G6.out)
          clear hK K
          try simp only [Act.put, List.setIfInBounds_toArray, List.set_cons_zero, List.set_cons_succ]
          refine wpAnyH_done (by kernel_rfl) ?_ _
          go_wp2_with fail
          go_roundw
          case rel =>
            refine ⟨k + 1, by omega, by go_num, ?_, ?_⟩
            · have h := Q3.out
              rw [HX.out, List.length_take, Nat.min_eq_left hk] at h
              exact h
            · have h := Q4.out w2 (grown_trans HG.out (below_row (below_trans (below_trans HD0.out HD4.out) ((Below.refl _ w4).alloc (Nat.le_refl _) (.cells #[.int .i64 T, .slice A4 d.length c4] 52))) (some ob))) (Nat.le_refl _)
              rw [List.length_take, Nat.min_eq_left hk] at h
              exact h
          case measure => simp [intOf]; omega
    · have hkl : k = l.length := by omega
      subst hkl
      rw [List.take_length] at hout
      have HO := Lib.hid (OutAt.lower hout hsz2)
      have HG := Lib.hid (grown_trans (below_row HB2.out (some ob)) hg)
      clear hout hg
      go_wp2_with fail
      go_ret
      exact ⟨rfl, HG.out, HO.out⟩

set_option maxHeartbeats 1000000 in
set_option maxRecDepth 100000 in
theorem parseAll_calls (A : Option Addr) (n c : Nat) (l : List (Int × List Int)) (w : World) (hr : Rd w A (bytesC (listB l))) (hn : n = (listB l).length) (hA : A = none → n = 0) (hok : ∀ x ∈ l, AttrOk x) (hb : ∀ x ∈ l, AllB x.2) (h20 : l.length ≤ 20) (hbig : n ≤ 1000000) :
    Calls Try.prog 26 #[.slice A n c] w fun e w' => ∃ v, e = .returned v ∧ PairsV w' v l ∧ Below w.heap.size w w' := by
  have hmf : ∀ (fn : Fn) (first cap : Array Value) (w : World), (Instr.makeFunc fn first cap).run Try.prog w = .ok (.func fn first cap) w := fun _ _ _ _ => rfl
  have HR := Lib.hid hr
  have HN := Lib.hid hn
  have HA := Lib.hid hA
  have HOK := Lib.hid hok
  have HAB := Lib.hid hb
  clear hr hn hA hok hb
  go_enter Try.func26, Try.ntmps26
  go_wp2_with fail
  refine (try_calls 55 _ _ (some (w.heap.size + 1)) true (fun W => OutAt W (w.heap.size + 3) (w.heap.size + 1) l) (fun w => Try.enter55 _ w) (by simp) ?cl ?post).mono ?_
  case cl =>
    refine (all1_calls w.heap.size (w.heap.size + 1) A n c l _ (alloc_at3 _ _ _ _) (alloc_at3' _ _ _ _) (HR.out.below (below3 _ _ _ _)) HN.out HA.out HOK.out HAB.out h20 hbig).mono ?_
    rintro e w' ⟨rfl, hg, ho⟩
    exact ⟨rfl, hg, by simpa using ho⟩
  case post =>
    intro w' h
    exact h.far (by simp) (by simp) _
  rintro e w1 ⟨rfl, hg, v, hs, hv, hown, hm⟩
  have B1 : Below w.heap.size w w1 := below_grown (below2 _ _ _) hg (by intro k hk; simp at hk; omega)
  obtain ⟨A1, k1, rfl, -, -, -⟩ := Rd.of_own hown
  have cc := cell_of_one hv
  have ff := free_of_one hv
  have HV := Lib.hid hv
  have HO := Lib.hid hown
  have HM := Lib.hid hm
  have HB := Lib.hid B1
  clear hg hv hown hm B1
  go_wp2_with fail
  have cc2 := cell_of_one (one_setCell (u := .slice A1 l.length k1) HV.out)
  refine bodyPost_ret (v := .slice A1 l.length k1) (by simp [results, Try.results26, go_sem, cc2]) rfl ⟨_, rfl, out_final HV.out HO.out HM.out (by omega) _, HB.out.setCell (by simp) _⟩
end Go.Proofs.Ytbogknjgjbhagaa
