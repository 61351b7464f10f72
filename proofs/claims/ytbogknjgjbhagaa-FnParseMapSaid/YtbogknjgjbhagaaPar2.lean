/- The attributes of bytes, with their heads. -/
import Derived.Test.YtbogknjgjbhagaaPar
namespace Go.Proofs.Ytbogknjgjbhagaa
open Go.RowKit
set_option linter.unusedSimpArgs false

theorem Try.info92 : (Try.prog.info? 92).map (fun i => (i.zero, i.size, i.bytes)) = some (some (.agg #[.int .u16 0, .int .u16 0, .slice none 0 0]), 3, 32) := by kernel_rfl

def tripH (p : Int × Int × Value) : List Value := [.int .u16 p.1, .int .u16 p.2.1, p.2.2]
theorem tripH_length (p : Int × Int × Value) : (tripH p).length = 3 := rfl

/-- Bytes that begin an attribute longer than they are. -/
def Bad (tail : List Int) : Prop := ∃ x y r, tail = x ++ y ++ r ∧ AllB x ∧ AllB y ∧ x.length = 2 ∧ y.length = 2 ∧ 4 ≤ leV x ∧ (tail.length : Int) < leV x

def RoutePost (l : List (Int × List Int)) (tail : List Int) (w : World) (e : Ending) (w' : World) : Prop := Below w.heap.size w w' ∧
  (tail = [] → ∃ v hs, e = .returned (.tuple #[v, .nilIface]) ∧ w'.ownsRow w.heap.size 92 3 v l.length (fl tripH hs) ∧ Match w' (hs.map Prod.snd) l) ∧
  (Bad tail → e = .returned (.tuple #[.slice none 0 0, errV]))

theorem lowB2 (v : Int) (h : 0 ≤ v ∧ v < 65536) : leV (lowB v 2) = v := by
  simp [lowB, List.range_succ, leV, byteLe]; omega

theorem listB_drop (l : List (Int × List Int)) (k : Nat) (h : k < l.length) : listB (l.drop k) = attrB (leaf l[k]) ++ listB (l.drop (k + 1)) := by
  rw [List.drop_eq_getElem_cons h, listB, List.map_cons, attrsB]; rfl
/-- An attribute without others within: its head, its data, noughts. -/
theorem leaf_eq (x : Int × List Int) : attrB (leaf x) = lowB ((x.2.length : Int) + 4) 2 ++ (lowB x.1 2 ++ (x.2 ++ List.replicate (padN (4 + x.2.length)) 0)) := by
  have e : (lowB (((x.2 ++ ([] : List Int)).length + 4 : Nat) : Int) 2 ++ lowB x.1 2 ++ (x.2 ++ [])).length = 4 + x.2.length := by simp; omega
  rw [leaf, attrB, attrsB, pad, e]
  simp

theorem take_cells {w : World} {b o : Nat} {l : List Int} (h : ∀ j u, (bytesC l)[j]? = some u → w.cell? ⟨b, o + j, none⟩ = some u) (i k : Nat) (x : List Int) (e : ∀ j, j < k → l[i + j]? = some (x.getD j 0)) : ∀ j, j < k → w.cell? ⟨b, o + (i + j), none⟩ = some (.int .u8 (x.getD j 0)) :=
  fun j hj => h _ _ (by rw [bytesC, List.getElem?_map, e j hj]; rfl)

theorem Rd.pre {w : World} {A : Option Addr} {xs ys : List Value} (h : Rd w A (xs ++ ys)) : Rd w A xs := fun hne => by
  obtain ⟨b, o, e, hc⟩ := h (by intro e; exact hne (List.append_eq_nil_iff.1 e).1)
  refine ⟨b, o, e, fun j u hj => hc j u ?_⟩
  rw [List.getElem?_append_left (List.getElem?_eq_some_iff.1 hj).1]; exact hj

theorem cell_three_new (w : World) (a b c : Value) (t : TypeId) : ∀ j u, [a, b, c][j]? = some u → (w.alloc (.cells #[a, b, c] t)).cell? ((⟨w.heap.size, 0, none⟩ : Addr).add j) = some u := by
  intro j u hj
  rw [Addr.add_lit, cell_of_row _ _ (0 + j) _ _ (0, 0) (heap_alloc_new w _)]
  simpa using hj

theorem drop_head {X Y : List Int} {cs : List Value} (h : cs = bytesC (X ++ Y)) {k : Nat} (hk : X.length = k) : cs.drop k = bytesC Y := by
  subst h
  rw [bytesC, List.map_append, List.drop_left' (by simpa using hk)]; rfl

set_option maxHeartbeats 2000000 in
set_option maxRecDepth 100000 in
theorem route_calls (A : Option Addr) (n c : Nat) (l : List (Int × List Int)) (tail : List Int) (w : World) (hr : Rd w A (bytesC (listB l ++ tail))) (hn : n = (listB l ++ tail).length) (hc : n ≤ c) (hok : ∀ x ∈ l, AttrOk x) (hb : ∀ x ∈ l, AllB x.2) (h20 : l.length ≤ 20)
    (ht : tail = [] ∨ Bad tail) (hbig : n ≤ 1000000) : Calls Try.prog 53 #[.slice A n c] w fun e w' => RoutePost l tail w e w' := by
  obtain ⟨i0, hi, hz0, hz1, hz2⟩ := info_parts Try.info92
  have HR := Lib.hid hr
  have HN := Lib.hid hn
  have HOK := Lib.hid hok
  have HAB := Lib.hid hb
  have HT := Lib.hid ht
  clear hr hn hok hb ht
  go_enter Try.func53, Try.ntmps53
  go_wp2_with fail
  go_loopw [0, 4] (fun s v wr => ∃ k A n c, k ≤ l.length ∧ s = .slice A n c ∧ n = (listB (l.drop k) ++ tail).length ∧ n ≤ c ∧ n ≤ 1000000 ∧ Rd w A (bytesC (listB (l.drop k) ++ tail)) ∧
    (∃ hs, wr.ownsRow w.heap.size 92 3 v k (fl tripH hs) ∧ Match w (hs.map Prod.snd) (l.take k)) ∧ Below w.heap.size w wr) (fun s _ _ => lenVal s)
  case atStart => exact ⟨0, A, n, c, Nat.zero_le _, rfl, HN.out, hc, hbig, HR.out, ⟨[], World.ownsRow_nil _ _ _ _, by simp [Match]⟩, Below.refl _ _⟩
  case round =>
    obtain ⟨k, A, n, c, hk, rfl, hn, hc, hbig, hr, ⟨hs, hown, hm⟩, hb⟩ := hrel
    clear HR HN
    have hbs := hb.size
    have HB := Lib.hid hb
    have HO := Lib.hid hown
    have HM := Lib.hid hm
    clear hb hown hm
    by_cases hlt : k < l.length
    · have hmem : l[k] ∈ l := List.getElem_mem hlt
      have hxo := HOK.out _ hmem
      have hxb := HAB.out _ hmem
      have hdrop := listB_drop l k hlt
      obtain ⟨x, hx⟩ : ∃ x, x = l[k] := ⟨_, rfl⟩
      rw [← hx] at hxo hxb hdrop
      obtain ⟨t, d⟩ := x
      simp only [AttrOk] at hxo
      simp only at hxb
      obtain ⟨rest, hrest⟩ : ∃ rest, rest = listB (l.drop (k + 1)) ++ tail := ⟨_, rfl⟩
      have hX : listB (l.drop k) ++ tail = lowB ((d.length : Int) + 4) 2 ++ (lowB t 2 ++ (d ++ (List.replicate (padN (4 + d.length)) 0 ++ rest))) := by
        rw [hdrop, leaf_eq, hrest]; simp
      have hal := leaf_len (t, d)
      have hX2 : listB (l.drop k) ++ tail = attrB (leaf (t, d)) ++ rest := by rw [hdrop, hrest]; simp
      rw [hX2, List.length_append] at hn
      rw [hX] at hr
      simp only at hal
      obtain ⟨b, o, rfl, hcellw⟩ := hr (bytesC_ne (by simp; omega))
      have hcell := cells_below HB.out hcellw
      have hlx : leV (lowB ((d.length : Int) + 4) 2) = (d.length : Int) + 4 := lowB2 _ (by omega)
      have hly : leV (lowB t 2) = t := lowB2 _ (by omega)
      have vc := value_calls b o n c (lowB ((d.length : Int) + 4) 2) (lowB t 2) wr (lowB_all _ _) (lowB_all _ _) (lowB_length _ _) (lowB_length _ _) (by omega) hc hbig
        (fun j hj => by
          have := take_cells hcell 0 2 (lowB ((d.length : Int) + 4) 2) (fun j hj => by
            rw [Nat.zero_add, List.getElem?_append_left (by simpa using hj), List.getD_eq_getElem?_getD, List.getElem?_eq_getElem (by simpa using hj)]; rfl) j hj
          simpa using this)
        (take_cells hcell 2 2 (lowB t 2) (fun j hj => by
          rw [List.getElem?_append_right (by simp), lowB_length, Nat.add_sub_cancel_left, List.getElem?_append_left (by simpa using hj), List.getD_eq_getElem?_getD, List.getElem?_eq_getElem (by simpa using hj)]; rfl))
        (by rw [hlx]; omega) (by rw [hlx]; omega)
      rw [hlx, hly] at vc
      obtain ⟨q, hq⟩ : ∃ q, q = (attrB (leaf (t, d))).length := ⟨_, rfl⟩
      rw [show ((d.length : Int) + 4 + 3) / 4 * 4 = (q : Int) from by omega] at vc
      have hqn : q ≤ n := by omega
      have hq0 : 0 < q := by omega
      have hnq : n - q = rest.length := by omega
      have HNQ := Lib.hid hnq
      have HE := Lib.hid (hX2.symm.trans hX)
      have HQ := Lib.hid hq
      have VC := Lib.hid vc
      have HC := Lib.hid hcellw
      have HX := Lib.hid hx
      have HREST := Lib.hid hrest
      have hn4 : (4 : Int) ≤ (n : Int) := by omega
      have hnd : d.length + 4 ≤ n := by omega
      have HNN := Lib.hid hn
      have HAL := Lib.hid hal
      obtain ⟨m, hm4⟩ : ∃ m, m = n - 4 := ⟨_, rfl⟩
      obtain ⟨cc, hcc4⟩ : ∃ cc, cc = c - 4 := ⟨_, rfl⟩
      rw [← hm4, ← hcc4] at VC
      have hdm : d.length ≤ m := by omega
      have hmc : m ≤ cc := by omega
      have HM4 := Lib.hid hm4
      have HCC4 := Lib.hid hcc4
      clear vc hm4 hcc4 hcell hcellw hx hrest hX hX2 hdrop hmem hr hn hal hlx hly hq hnq
      go_wp2_with fail
      refine VC.out.mono ?_
      rintro e w1 ⟨g, rfl, hg, hb1⟩
      have g0 : w1.cell? ⟨g, 0, none⟩ = some (.int .u16 ((d.length : Int) + 4)) := (cell_of_row _ _ 0 _ _ (0, 0) hg).trans rfl
      have g1 : w1.cell? ⟨g, 1, none⟩ = some (.int .u16 t) := (cell_of_row _ _ 1 _ _ (0, 0) hg).trans rfl
      have wL : IntKind.i64.wrap ((d.length : Int) + 4) = (d.length : Int) + 4 := IntWalk.i64_in _ (by omega)
      have wd : IntKind.i64.wrap (d.length : Int) = (d.length : Int) := IntWalk.i64_in _ (by omega)
      have hdcc : d.length ≤ cc := by omega
      have HB1 := Lib.hid hb1
      have hbs1 := hb1.size
      have KS : Hid (∀ W, Below w1.heap.size w1 W → W.cell? ⟨g, 0, none⟩ = some (.int .u16 ((d.length : Int) + 4)) ∧ W.cell? ⟨g, 1, none⟩ = some (.int .u16 t) ∧ Below w1.heap.size w1 W) := fun W hW => ⟨cells_one hW g0, cells_one hW g1, hW⟩
      clear hg hb1
      go_wp2_with fail
      refine wp_region_held_drew (S := fun w' => w'.cell? ⟨g, 0, none⟩ = some (.int .u16 ((d.length : Int) + 4)) ∧ w'.cell? ⟨g, 1, none⟩ = some (.int .u16 t) ∧ Below w1.heap.size w1 w') (by kernel_rfl) (KS.out _ ((Below.refl _ _).drew)) (fun hHeld => ?_)
      refine wpAnyH_take (i := 0) (oi := ?o0) (v := ?v0) ?h0 (by kernel_rfl) (by kernel_rfl) (by kernel_rfl) ?q0 (Or.inl ⟨?w0, ?y0⟩) (by assumption) ?r0
      case h0 => (simp only [List.getElem?_toArray, List.getElem?_cons_succ, List.getElem?_cons_zero] <;> rfl)
      case q0 => exact fun _ _ _ h => h
      case w0 => rfl
      case y0 => (intro w hSw; (try dsimp only at hSw); go_simp; (try with_reducible rfl))
      try simp only [Act.put, List.setIfInBounds_toArray, List.set_cons_zero, List.set_cons_succ]
      refine wpAnyH_take (i := 1) (oi := ?o1) (v := ?v1) ?h1 (by kernel_rfl) (by kernel_rfl) (by kernel_rfl) ?q1 (Or.inl ⟨?w1, ?y1⟩) (by assumption) ?r1
      case h1 => (simp only [List.getElem?_toArray, List.getElem?_cons_succ, List.getElem?_cons_zero] <;> rfl)
      case q1 => exact fun _ _ _ h => h
      case w1 => rfl
      case y1 => (intro w hSw; (try dsimp only at hSw); go_simp; (try with_reducible rfl))
      try simp only [Act.put, List.setIfInBounds_toArray, List.set_cons_zero, List.set_cons_succ]
      refine wpAnyH_take (i := 2) (oi := ?o2) (v := ?v2) ?h2 (by kernel_rfl) (by kernel_rfl) (by kernel_rfl) ?q2 (Or.inl ⟨?w2, ?y2⟩) (by assumption) ?r2
      case h2 => (simp only [List.getElem?_toArray, List.getElem?_cons_succ, List.getElem?_cons_zero] <;> rfl)
      case q2 => exact fun _ _ _ h => h
      case w2 => rfl
      case y2 => (intro w hSw; (try dsimp only at hSw); go_simp; (try with_reducible rfl))
      try simp only [Act.put, List.setIfInBounds_toArray, List.set_cons_zero, List.set_cons_succ]
      refine wpAnyH_take (i := 3) (oi := ?o3) (v := ?v3) ?h3 (by kernel_rfl) (by kernel_rfl) (by kernel_rfl) ?q3 (Or.inl ⟨?w3, ?y3⟩) (by assumption) ?r3
      case h3 => (simp only [List.getElem?_toArray, List.getElem?_cons_succ, List.getElem?_cons_zero] <;> rfl)
      case q3 => exact fun _ _ _ h => h
      case w3 => rfl
      case y3 => (intro w hSw; (try dsimp only at hSw); go_simp; (try with_reducible rfl))
      try simp only [Act.put, List.setIfInBounds_toArray, List.set_cons_zero, List.set_cons_succ]
      refine wpAnyH_take (i := 4) (oi := ?o4) (v := ?v4) ?h4 (by kernel_rfl) (by kernel_rfl) (by kernel_rfl) ?q4 (Or.inl ⟨?w4, ?y4⟩) (by assumption) ?r4
      case h4 => (simp only [List.getElem?_toArray, List.getElem?_cons_succ, List.getElem?_cons_zero] <;> rfl)
      case q4 => exact fun _ _ _ h => h
      case w4 => rfl
      case y4 => (intro w hSw; (try dsimp only at hSw); go_simp; (try with_reducible rfl))
      try simp only [Act.put, List.setIfInBounds_toArray, List.set_cons_zero, List.set_cons_succ]
      refine wpAnyH_take (i := 5) (oi := ?o5) (v := ?v5) ?h5 (by kernel_rfl) (by kernel_rfl) (by kernel_rfl) ?q5 (Or.inl ⟨?w5, ?y5⟩) (by assumption) ?r5
      case h5 => (simp only [List.getElem?_toArray, List.getElem?_cons_succ, List.getElem?_cons_zero] <;> rfl)
      case q5 => exact fun _ _ _ h => h
      case w5 => rfl
      case y5 => (intro w hSw; (try dsimp only at hSw); go_simp; (try with_reducible rfl))
      try simp only [Act.put, List.setIfInBounds_toArray, List.set_cons_zero, List.set_cons_succ]
      refine wpAnyH_take (i := 6) (oi := ?o6) (v := ?v6) ?h6 (by kernel_rfl) (by kernel_rfl) (by kernel_rfl) ?q6 (Or.inl ⟨?w6, ?y6⟩) (by assumption) ?r6
      case h6 => (simp only [List.getElem?_toArray, List.getElem?_cons_succ, List.getElem?_cons_zero] <;> rfl)
      case q6 => exact fun _ _ _ h => h
      case w6 => rfl
      case y6 => (intro w hSw; (try dsimp only at hSw); go_simp; (try with_reducible rfl))
      try simp only [Act.put, List.setIfInBounds_toArray, List.set_cons_zero, List.set_cons_succ]
      refine wpAnyH_take (i := 7) (oi := ?o7) (v := ?v7) ?h7 (by kernel_rfl) (by kernel_rfl) (by kernel_rfl) ?q7 (Or.inl ⟨?w7, ?y7⟩) (by assumption) ?r7
      case h7 => (simp only [List.getElem?_toArray, List.getElem?_cons_succ, List.getElem?_cons_zero] <;> rfl)
      case q7 => exact fun _ _ _ h => h
      case w7 => rfl
      case y7 => (intro w hSw; (try dsimp only at hSw); go_simp; (try with_reducible rfl))
      try simp only [Act.put, List.setIfInBounds_toArray, List.set_cons_zero, List.set_cons_succ]
      refine wpAnyH_take (i := 8) (oi := ?o8) (v := ?v8) ?h8 (by kernel_rfl) (by kernel_rfl) (by kernel_rfl) ?q8 (Or.inl ⟨?w8, ?y8⟩) (by assumption) ?r8
      case h8 => (simp only [List.getElem?_toArray, List.getElem?_cons_succ, List.getElem?_cons_zero] <;> rfl)
      case q8 => exact fun _ _ _ h => h
      case w8 => rfl
      case y8 => (intro w hSw; (try dsimp only at hSw); go_simp; (try with_reducible rfl))
      try simp only [Act.put, List.setIfInBounds_toArray, List.set_cons_zero, List.set_cons_succ]
      refine wpAnyH_take (i := 9) (oi := ?o9) (v := ?v9) ?h9 (by kernel_rfl) (by kernel_rfl) (by kernel_rfl) ?q9 (Or.inl ⟨?w9, ?y9⟩) (by assumption) ?r9
      case h9 => (simp only [List.getElem?_toArray, List.getElem?_cons_succ, List.getElem?_cons_zero] <;> rfl)
      case q9 => exact fun _ _ _ h => h
      case w9 => rfl
      case y9 => (intro w hSw; (try dsimp only at hSw); go_simp; (try with_reducible rfl))
      try simp only [Act.put, List.setIfInBounds_toArray, List.set_cons_zero, List.set_cons_succ]
      refine wpAnyH_take (i := 10) (oi := ?o10) (v := ?v10) ?h10 (by kernel_rfl) (by kernel_rfl) (by kernel_rfl) ?q10 (Or.inl ⟨?w10, ?y10⟩) (by assumption) ?r10
      case h10 => (simp only [List.getElem?_toArray, List.getElem?_cons_succ, List.getElem?_cons_zero] <;> rfl)
      case q10 => exact fun _ _ _ h => h
      case w10 => rfl
      case y10 => (intro w hSw; (try dsimp only at hSw); go_simp; (try with_reducible rfl))
      try simp only [Act.put, List.setIfInBounds_toArray, List.set_cons_zero, List.set_cons_succ]
      refine wpAnyH_take (i := 11) (oi := ?o11) (v := ?v11) ?h11 (by kernel_rfl) (by kernel_rfl) (by kernel_rfl) ?q11 (Or.inl ⟨?w11, ?y11⟩) (by assumption) ?r11
      case h11 => (simp only [List.getElem?_toArray, List.getElem?_cons_succ, List.getElem?_cons_zero] <;> rfl)
      case q11 => exact fun _ _ _ h => h
      case w11 => rfl
      case y11 => (intro w hSw; (try dsimp only at hSw); go_simp; (try with_reducible rfl))
      try simp only [Act.put, List.setIfInBounds_toArray, List.set_cons_zero, List.set_cons_succ]
      refine wpAnyH_ready (rs := [12]) (by kernel_rfl) (by simp) ?_
      refine AllReadyH.cons (o := ?o12) ?h12 (fun K hK => ?_) AllReadyH.nil
      case h12 => (simp only [List.getElem?_toArray, List.getElem?_cons_succ, List.getElem?_cons_zero] <;> rfl)
      go_simp
      refine hK.out _ _ ?s12 (fun hHeld => ?_)
      case s12 => exact KS.out _ (by go_grown)
      clear hK K
      try simp only [Act.put, List.setIfInBounds_toArray, List.set_cons_zero, List.set_cons_succ]
      refine wpAnyH_ready (rs := [13]) (by kernel_rfl) (by simp) ?_
      refine AllReadyH.cons (o := ?o13) ?h13 (fun K hK => ?_) AllReadyH.nil
      case h13 => (simp only [List.getElem?_toArray, List.getElem?_cons_succ, List.getElem?_cons_zero] <;> rfl)
      go_simp
      refine hK.out _ _ ?s13 (fun hHeld => ?_)
      case s13 => exact KS.out _ (by go_grown)
      clear hK K
      try simp only [Act.put, List.setIfInBounds_toArray, List.set_cons_zero, List.set_cons_succ]
      refine wpAnyH_done (by kernel_rfl) ?_ _
      obtain ⟨u9, hu9⟩ : ∃ u : Value, u = .slice (from4 b o c 4) d.length cc := ⟨_, rfl⟩
      rw [← hu9]
      obtain ⟨W2, hW2⟩ : ∃ W2, W2 = (w1.alloc (.cells #[.int .u16 ((d.length : Int) + 4), .int .u16 t, u9] 92)).drew := ⟨_, rfl⟩
      have B2 : Below w1.heap.size w1 W2 := by rw [hW2]; exact ((Below.refl _ w1).alloc (Nat.le_refl _) _).drew
      have g3 : Three W2 w1.heap.size (.int .u16 ((d.length : Int) + 4)) (.int .u16 t) u9 := by rw [hW2]; exact three_new w1 _ _ _ _
      obtain ⟨g30, g31, g32⟩ := g3
      rw [← hW2]
      have hsz2 := B2.size
      have B2r : Below wr.heap.size wr W2 := below_trans HB1.out B2
      have hzz2 := B2r.size
      have hv : BytesAt w u9 d := by
        rw [hu9]
        refine ⟨_, cc, rfl, by omega, ?_, fun e => absurd e (from4_some _ _ _ _)⟩
        have h := from4_rd (n := n) (c := c) (k := 4) HC.out (by rw [bytesC_length, ← HE.out, List.length_append, ← HQ.out]; have := HNQ.out; omega) hc
        rw [drop_head (X := lowB ((d.length : Int) + 4) 2 ++ lowB t 2) (Y := d ++ (List.replicate (padN (4 + d.length)) 0 ++ rest)) (by rw [List.append_assoc]) (by simp), bytesC, List.map_append] at h
        exact h.pre
      have hone : u9.oneCell' = true := by rw [hu9]; rfl
      have HV := Lib.hid hv
      have HU9 := Lib.hid hu9
      have HB2r := Lib.hid B2r
      clear hHeld hv hu9 hW2 B2 B2r
      have HO2 := Lib.hid (own_below HO.out HB2r.out)
      go_wp2_with (at_builtin; go_must (refine wpList_append_own _ rfl _ _ 84 rfl w.heap.size 92 i0 (.agg #[.int .u16 0, .int .u16 0, .slice none 0 0]) 3 32 Try.underlying84 hi hz0 hz1 hz2 rfl (by decide) _ _ _ rfl (by exact HO2.out.alloc _) ⟨W2.heap.size, 0, none⟩ 1 1 [.int .u16 ((d.length : Int) + 4), .int .u16 t, u9] rfl rfl (by exact cell_three_new W2 _ _ _ _) (by intro u hu; simp at hu; rcases hu with rfl | rfl | rfl <;> first | rfl | exact hone) (by unfold maxLen; omega) (by omega) (by simp; omega) ?_))
      intro v' w3 hown' hgrow _
      have B3 : Below w.heap.size w w3 := ((HB.out.trans (HB2r.out.mono hbs)).alloc (by omega) (.cells #[.int .u16 ((d.length : Int) + 4), .int .u16 t, u9] 92)).grown hgrow (by simp; omega) (fun q hq => (HO2.out.lt q hq).1)
      have R : w3.ownsRow w.heap.size 92 3 v' (k + 1) (fl tripH (hs ++ [((d.length : Int) + 4, t, u9)])) := by rw [fl_snoc]; exact hown'
      have hm1 : Match w ((hs ++ [((d.length : Int) + 4, t, u9)]).map Prod.snd) (l.take (k + 1)) := by
        rw [List.map_append, List.take_succ_eq_append_getElem hlt, ← HX.out]
        exact HM.out.snoc rfl HV.out
      have hrd : Rd w (from4 b o c q) (bytesC rest) := by
        have h := from4_rd (n := n) (c := c) (k := q) HC.out (by rw [bytesC_length, ← HE.out, List.length_append, ← HQ.out]; have := HNQ.out; omega) hc
        rw [drop_head (X := attrB (leaf (t, d))) (Y := rest) (by rw [HE.out]) HQ.out.symm] at h
        exact h
      have HR3 := Lib.hid R
      have HB3 := Lib.hid B3
      have HM3 := Lib.hid hm1
      have HRD := Lib.hid hrd
      have hr0 : (0 : Int) ≤ (q : Int) := by omega
      clear hown' hgrow R B3 hm1 hrd
      have hnn : (rest.length : Nat) = (listB (l.drop (k + 1)) ++ tail).length := by rw [HREST.out]
      have HNN2 := Lib.hid hnn
      clear hnn
      by_cases hcq : c = q
      · have hrz : rest = [] := List.eq_nil_of_length_eq_zero (by have := HNQ.out; omega)
        have HRZ := Lib.hid hrz
        clear hrz
        go_wp2
        go_roundw
        case rel =>
          refine ⟨k + 1, _, n - q, c - q, by omega, by go_num, ?_, by omega, by omega, ?_, ⟨_, HR3.out, HM3.out⟩, HB3.out⟩
          · rw [HNQ.out, HNN2.out]
          · rw [← HREST.out, HRZ.out]; exact Rd.nil _ _
        case measure => simp [lenVal]; omega
      · have h := HRD.out
        rw [from4, if_neg hcq] at h
        have HRD2 := Lib.hid h
        clear h HRD
        go_wp2
        go_roundw
        case rel =>
          refine ⟨k + 1, _, n - q, c - q, by omega, by go_num, ?_, by omega, by omega, ?_, ⟨_, HR3.out, HM3.out⟩, HB3.out⟩
          · rw [HNQ.out, HNN2.out]
          · rw [← HREST.out]; exact HRD2.out
        case measure => simp [lenVal]; omega
    · have hkl : k = l.length := by omega
      subst hkl
      have e0 : listB (l.drop l.length) ++ tail = tail := by rw [List.drop_length]; rfl
      rw [e0] at hn hr
      rcases HT.out with ht | ht
      · rw [ht, List.length_nil] at hn
        subst hn
        have h4 : ¬ (4 : Int) ≤ ((0 : Nat) : Int) := by omega
        obtain ⟨A3, c3, rfl, -, -, -⟩ := Rd.of_own HO.out
        have hm1 : Match w (hs.map Prod.snd) l := by have h := HM.out; rwa [List.take_length] at h
        have HM3 := Lib.hid hm1
        have hnb : ¬ Bad tail := by
          rintro ⟨x, y, r, e, -, -, hx, -⟩
          have := congrArg List.length e
          rw [ht] at this
          simp at this
          omega
        have HTT := Lib.hid ht
        have HNB := Lib.hid hnb
        clear hm1 ht hnb HT hr
        go_wp2_with fail
        refine bodyPost_ret (v := .tuple #[.slice A3 l.length c3, .nilIface]) (by simp [results, Try.results53, go_sem]) rfl ⟨HB.out, fun _ => ⟨_, hs, rfl, HO.out, HM3.out.below HB.out⟩, fun h => absurd h HNB.out⟩
      · obtain ⟨x, y, r, e, hx, hy, hxl, hyl, hL, hLn⟩ := ht
        have hx2 := leV_lt2 x hx (by omega)
        have hn4 : 4 ≤ n := by rw [hn, e]; simp; omega
        obtain ⟨b, o, rfl, hcellw⟩ := hr (bytesC_ne (by omega))
        have hcell := cells_below HB.out hcellw
        rw [← hn] at hLn
        rw [e, List.append_assoc] at hcell
        have vc := value_fails b o n c x y wr hx hy hxl hyl hn4 hbig
          (fun j hj => by
            have := take_cells hcell 0 2 x (fun j hj => by
              rw [Nat.zero_add, List.getElem?_append_left (by omega), List.getD_eq_getElem?_getD, List.getElem?_eq_getElem (by omega)]; rfl) j hj
            simpa using this)
          (take_cells hcell 2 2 y (fun j hj => by
            rw [List.getElem?_append_right (by omega), hxl, Nat.add_sub_cancel_left, List.getElem?_append_left (by omega), List.getD_eq_getElem?_getD, List.getElem?_eq_getElem (by omega)]; rfl))
          hL hLn
        have hnt : tail ≠ [] := by
          intro h
          rw [h] at hn
          simp at hn
          omega
        have HNT := Lib.hid hnt
        unfold errV at vc
        have VC := Lib.hid vc
        have hn4' : (4 : Int) ≤ (n : Int) := by omega
        clear vc hcell hcellw hnt hr e hx hy hLn hL hxl hyl hn hx2
        go_wp2_with fail
        refine VC.out.mono ?_
        rintro e w1 ⟨rfl, hb1⟩
        have HB1 := Lib.hid (HB.out.trans (hb1.mono hbs))
        clear hb1
        go_wp2_with fail
        refine bodyPost_ret (v := .tuple #[.slice none 0 0, errV]) (by simp [results, Try.results53, go_sem, errV]) rfl ⟨HB1.out, fun h => absurd h HNT.out, fun _ => rfl⟩
end Go.Proofs.Ytbogknjgjbhagaa
