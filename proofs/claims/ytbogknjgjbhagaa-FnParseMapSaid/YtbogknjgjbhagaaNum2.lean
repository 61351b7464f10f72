/- The thin package's calls that read a number of an attribute. -/
import Derived.Test.YtbogknjgjbhagaaNum
import Derived.Handy
namespace Go.Proofs.Ytbogknjgjbhagaa
open Go.RowKit
set_option linter.unusedSimpArgs false

theorem Try.enter47 (args : Array Value) (w : World) : (callFunc 47 args).run Try.prog w = .ok (.enter 47 args) w := by kernel_rfl
theorem Try.enter49 (args : Array Value) (w : World) : (callFunc 49 args).run Try.prog w = .ok (.enter 49 args) w := by kernel_rfl

/-- The cells of a block of two that has just been laid, behind what has grown since. -/
theorem two_later {w W1 : World} {a b : Value} {t : TypeId} (h : Below (w.alloc (.cells #[a, b] t)).drew.heap.size (w.alloc (.cells #[a, b] t)).drew W1) :
    W1.heap[w.heap.size]? = some (.cells #[a, b] t (0, 0)) ∧ W1.cell? ⟨w.heap.size, 0, none⟩ = some a ∧ W1.cell? ⟨w.heap.size, 1, none⟩ = some b ∧ W1.frozen? ⟨w.heap.size, 0, none⟩ = false ∧ W1.frozen? ⟨w.heap.size, 1, none⟩ = false := by
  have e : W1.heap[w.heap.size]? = some (.cells #[a, b] t (0, 0)) := (h.block w.heap.size (by simp)).trans (heap_alloc_new w _)
  exact ⟨e, by rw [cell_of_row _ _ 0 _ _ (0, 0) e]; rfl, by rw [cell_of_row _ _ 1 _ _ (0, 0) e]; rfl, frozen_of_row _ _ 0 _ _ e, frozen_of_row _ _ 1 _ _ e⟩

theorem two_set {w : World} {b : Nat} {x y : Value} {ty : TypeId} (h : w.heap[b]? = some (.cells #[x, y] ty (0, 0))) (t' : Int) (v' : Value) :
    AttrAt ((w.setCell ⟨b, 0, none⟩ (.int .u16 t')).setCell ⟨b, 1, none⟩ v') b t' v' := by
  have h1 := heap_setCell_same w b 0 #[x, y] ty (.int .u16 t') h
  have h2 := heap_setCell_same _ b 1 _ ty v' h1
  exact ⟨(cell_of_row _ _ 0 _ _ (0, 0) h2).trans rfl, (cell_of_row _ _ 1 _ _ (0, 0) h2).trans rfl⟩

theorem cell_far2 (w : World) {a c : Addr} {p : Addr} (u v : Value) (h : p.block ≠ a.block ∧ p.block ≠ c.block) : ((w.setCell a u).setCell c v).cell? p = w.cell? p := by
  refine World.cell?_of_block ?_
  rw [Below.heap_setCell _ _ _ _ h.2, Below.heap_setCell _ _ _ _ h.1]

set_option maxHeartbeats 2000000 in
set_option maxRecDepth 100000 in
theorem number1_calls (kb db nb b o n c : Nat) (kind : Int) (v0 : Value) (l : List Int) (w : World) (hkind : 0 ≤ kind ∧ kind < 65536)
    (hkb : w.heap[kb]? = some (.cells #[.int .i64 kind] 3 (0, 0))) (hdb : w.heap[db]? = some (.cells #[.slice (some ⟨b, o, none⟩) n c] 31 (0, 0))) (hnb : w.heap[nb]? = some (.cells #[v0] 23 (0, 0)))
    (hn : n = 4) (hb : AllB l) (hk : l.length = 4) (hc : ∀ j u, (bytesC l)[j]? = some u → w.cell? ⟨b, o + j, none⟩ = some u) :
    Calls Try.prog 47 #[.pointer (some ⟨kb, 0, none⟩), .pointer (some ⟨db, 0, none⟩), .pointer (some ⟨nb, 0, none⟩)] w fun e w' => e = .returned (.bool true) ∧ w.grownBy w' (some nb) ∧
      w'.heap[nb]? = some (.cells #[.int .u32 (numOf kind l)] 23 (0, 0)) := by
  have ck := cell_of_one hkb
  have cd := cell_of_one hdb
  have KS : Hid (∀ W, Below w.heap.size w W → W.cell? ⟨kb, 0, none⟩ = some (.int .i64 kind) ∧ W.cell? ⟨db, 0, none⟩ = some (.slice (some ⟨b, o, none⟩) n c) ∧ Below w.heap.size w W) := fun W hW =>
    ⟨by rw [hW.cell (World.block_lt_of_cell? w _ ck)]; exact ck, by rw [hW.cell (World.block_lt_of_cell? w _ cd)]; exact cd, hW⟩
  have kw : IntKind.u16.wrap kind = kind := IntWalk.u16_in kind (by omega)
  have HC := Lib.hid hc
  have HAB := Lib.hid hb
  have HNB := Lib.hid hnb
  have lnb := lt_of_block hnb
  subst hn
  clear hc hb hkb hdb hnb
  go_enter Try.func47, Try.ntmps47
  go_wp2_with fail
  refine wp_region_noPanic ?_
  refine wp_region_held_drew (S := fun w' => w'.cell? ⟨kb, 0, none⟩ = some (.int .i64 kind) ∧ w'.cell? ⟨db, 0, none⟩ = some (.slice (some ⟨b, o, none⟩) 4 c) ∧ Below w.heap.size w w') (by kernel_rfl) (KS.out _ ((Below.refl _ _).drew)) (fun hHeld => ?_)
  refine wpAnyH_take (i := 0) (oi := ?o0) (v := ?v0) ?h0 (by kernel_rfl) (by kernel_rfl) (by kernel_rfl) ?q0 (Or.inl ⟨?w0, ?y0⟩) (by assumption) ?r0
  case h0 => (simp only [List.getElem?_toArray, List.getElem?_cons_succ, List.getElem?_cons_zero] <;> rfl)
  case q0 => exact fun _ _ _ h => h
  case w0 => rfl
  case y0 => (intro w hSw; (try dsimp only at hSw); go_simp; (try with_reducible rfl))
  try simp only [Act.put, List.setIfInBounds_toArray, List.set_cons_zero, List.set_cons_succ]
  refine wpAnyH_take (i := 1) (oi := ?o1) (v := ?v1) ?h1 (by kernel_rfl) (by kernel_rfl) (by kernel_rfl) ?q1 (Or.inl ⟨?w1, ?y1⟩) (by assumption) ?r1
  case h1 => (simp only [List.getElem?_toArray, List.getElem?_cons_succ, List.getElem?_cons_zero] <;> rfl)
  case q1 => exact fun _ _ _ h => h
  case w1 => rfl
  case y1 => (intro w hSw; (try dsimp only at hSw); go_simp; (try with_reducible rfl))
  try simp only [Act.put, List.setIfInBounds_toArray, List.set_cons_zero, List.set_cons_succ]
  refine wpAnyH_take (i := 2) (oi := ?o2) (v := ?v2) ?h2 (by kernel_rfl) (by kernel_rfl) (by kernel_rfl) ?q2 (Or.inl ⟨?w2, ?y2⟩) (by assumption) ?r2
  case h2 => (simp only [List.getElem?_toArray, List.getElem?_cons_succ, List.getElem?_cons_zero] <;> rfl)
  case q2 => exact fun _ _ _ h => h
  case w2 => rfl
  case y2 => (intro w hSw; (try dsimp only at hSw); go_simp; (try with_reducible rfl))
  try simp only [Act.put, List.setIfInBounds_toArray, List.set_cons_zero, List.set_cons_succ]
  refine wpAnyH_ready (rs := [3, 5]) (by kernel_rfl) (by simp) ?_
  refine AllReadyH.cons (o := ?o3) ?h3 (fun K hK => ?br3) (AllReadyH.cons (o := ?o5) ?h5 (fun K hK => ?br5) (AllReadyH.nil))
  case h3 => (simp only [List.getElem?_toArray, List.getElem?_cons_succ, List.getElem?_cons_zero] <;> rfl)
  case h5 => (simp only [List.getElem?_toArray, List.getElem?_cons_succ, List.getElem?_cons_zero] <;> rfl)
  case br3 =>
    go_simp
    refine (clone_bytes (some ⟨b, o, none⟩) 4 c (bytesC l) _ (fun _ => ⟨b, o, rfl, by exact cells_below (by go_grown) HC.out⟩) (by rw [bytesC_length, hk]) (by omega) (bytesC_one _) (by intro h; cases h)).mono ?_
    rintro e w1 ⟨v1, rfl, hown1, hnil1, hb1⟩
    obtain ⟨A1, k1, rfl, hk1, hr1, hn1⟩ := Rd.of_own hown1
    obtain ⟨b1, o1, rfl, hc1⟩ := hr1 (by intro h; have := congrArg List.length h; rw [bytesC_length, hk] at this; exact absurd this (by decide))
    have B1 := below_trans (w := w) (by go_grown) hb1
    have hz1 := B1.size
    refine hK.out _ _ ?s3 (fun hHeld => ?_)
    case s3 => exact KS.out _ B1
    clear hK K
    try simp only [Act.put, List.setIfInBounds_toArray, List.set_cons_zero, List.set_cons_succ]
    refine wpAnyH_take (i := 4) (oi := ?o4) (v := ?v4) ?h4 (by kernel_rfl) (by kernel_rfl) (by kernel_rfl) ?q4 (Or.inl ⟨?w4, ?y4⟩) (by assumption) ?r4
    case h4 => (simp only [List.getElem?_toArray, List.getElem?_cons_succ, List.getElem?_cons_zero] <;> rfl)
    case q4 => exact fun _ _ _ h => h
    case w4 => rfl
    case y4 => (intro w hSw; (try dsimp only at hSw); go_simp; (try with_reducible rfl))
    try simp only [Act.put, List.setIfInBounds_toArray, List.set_cons_zero, List.set_cons_succ]
    refine wpAnyH_ready (rs := [5]) (by kernel_rfl) (by simp) ?_
    refine AllReadyH.cons (o := ?o5) ?h5 (fun K hK => ?_) AllReadyH.nil
    case h5 => (simp only [List.getElem?_toArray, List.getElem?_cons_succ, List.getElem?_cons_zero] <;> rfl)
    go_simp
    refine hK.out _ _ ?s5 (fun hHeld => ?_)
    case s5 => exact KS.out _ (by go_grown)
    clear hK K
    try simp only [Act.put, List.setIfInBounds_toArray, List.set_cons_zero, List.set_cons_succ]
    refine wpAnyH_ready (rs := [6]) (by kernel_rfl) (by simp) ?_
    refine AllReadyH.cons (o := ?o6) ?h6 (fun K hK => ?_) AllReadyH.nil
    case h6 => (simp only [List.getElem?_toArray, List.getElem?_cons_succ, List.getElem?_cons_zero] <;> rfl)
    go_simp
    refine hK.out _ _ ?s6 (fun hHeld => ?_)
    case s6 => exact KS.out _ (by go_grown)
    clear hK K
    try simp only [Act.put, List.setIfInBounds_toArray, List.set_cons_zero, List.set_cons_succ]
    refine wpAnyH_done (by kernel_rfl) ?_ _
    refine NoPanic.normal ?_
    have AT : AttrAt (w1.alloc (.cells #[.int .u16 kind, .slice (some ⟨b1, o1, none⟩) 4 k1] 80)) w1.heap.size kind (.slice (some ⟨b1, o1, none⟩) 4 k1) := ⟨(cell_of_row _ _ 0 _ _ (0, 0) (heap_alloc_new w1 _)).trans rfl, (cell_of_row _ _ 1 _ _ (0, 0) (heap_alloc_new w1 _)).trans rfl⟩
    have BW : Below w.heap.size w (w1.alloc (.cells #[.int .u16 kind, .slice (some ⟨b1, o1, none⟩) 4 k1] 80)) := by go_grown
    have CW : ∀ j u, (bytesC l)[j]? = some u → (w1.alloc (.cells #[.int .u16 kind, .slice (some ⟨b1, o1, none⟩) 4 k1] 80)).cell? ⟨b1, o1 + j, none⟩ = some u := cells_below ((Below.refl _ w1).alloc (Nat.le_refl _) _) hc1
    have HAT := Lib.hid AT
    have HBW := Lib.hid BW
    have HCW := Lib.hid CW
    clear AT BW CW hc1 hr1 hown1 hHeld
    go_wp2_with fail
    refine (attrUint32_calls _ b1 o1 4 k1 kind l _ (by omega) HAT.out (by omega) (by omega) HAB.out hk HCW.out).mono ?_
    rintro e w2 ⟨rfl, hb2⟩
    have B2 : Below w.heap.size w w2 := below_trans HBW.out hb2
    have hnb2 : w2.heap[nb]? = some (.cells #[v0] 23 (0, 0)) := (B2.block nb lnb).trans HNB.out
    have cc := cell_of_one hnb2
    have ff := free_of_one hnb2
    have HN2 := Lib.hid hnb2
    have HB2 := Lib.hid B2
    clear hb2 hnb2 B2
    go_wp2_with fail
    go_ret
    exact ⟨rfl, grown_store HB2.out nb _, one_setCell HN2.out⟩
  case br5 =>
    go_simp
    refine hK.out _ _ ?s5B (fun hHeld => ?_)
    case s5B => exact KS.out _ (by go_grown)
    clear hK K
    try simp only [Act.put, List.setIfInBounds_toArray, List.set_cons_zero, List.set_cons_succ]
    refine wpAnyH_ready (rs := [3]) (by kernel_rfl) (by simp) ?_
    refine AllReadyH.cons (o := ?o3B) ?h3B (fun K hK => ?_) AllReadyH.nil
    case h3B => (simp only [List.getElem?_toArray, List.getElem?_cons_succ, List.getElem?_cons_zero] <;> rfl)
    go_simp
    refine (clone_bytes (some ⟨b, o, none⟩) 4 c (bytesC l) _ (fun _ => ⟨b, o, rfl, by exact cells_below (by go_grown) HC.out⟩) (by rw [bytesC_length, hk]) (by omega) (bytesC_one _) (by intro h; cases h)).mono ?_
    rintro e w1 ⟨v1, rfl, hown1, hnil1, hb1⟩
    obtain ⟨A1, k1, rfl, hk1, hr1, hn1⟩ := Rd.of_own hown1
    obtain ⟨b1, o1, rfl, hc1⟩ := hr1 (by intro h; have := congrArg List.length h; rw [bytesC_length, hk] at this; exact absurd this (by decide))
    have B1 := below_trans (w := w) (by go_grown) hb1
    have hz1 := B1.size
    obtain ⟨nb0, n0, n1, f0, f1⟩ := two_later hb1
    have HNB0 := Lib.hid nb0
    clear nb0
    refine hK.out _ _ ?s3B (fun hHeld => ?_)
    case s3B => exact KS.out _ B1
    clear hK K
    try simp only [Act.put, List.setIfInBounds_toArray, List.set_cons_zero, List.set_cons_succ]
    refine wpAnyH_take (i := 4) (oi := ?o4B) (v := ?v4B) ?h4B (by kernel_rfl) (by kernel_rfl) (by kernel_rfl) ?q4B (Or.inl ⟨?w4B, ?y4B⟩) (by assumption) ?r4B
    case h4B => (simp only [List.getElem?_toArray, List.getElem?_cons_succ, List.getElem?_cons_zero] <;> rfl)
    case q4B => exact fun _ _ _ h => h
    case w4B => rfl
    case y4B => (intro w hSw; (try dsimp only at hSw); go_simp; (try with_reducible rfl))
    try simp only [Act.put, List.setIfInBounds_toArray, List.set_cons_zero, List.set_cons_succ]
    refine wpAnyH_ready (rs := [6]) (by kernel_rfl) (by simp) ?_
    refine AllReadyH.cons (o := ?o6B) ?h6B (fun K hK => ?_) AllReadyH.nil
    case h6B => (simp only [List.getElem?_toArray, List.getElem?_cons_succ, List.getElem?_cons_zero] <;> rfl)
    go_simp
    refine hK.out _ _ ?s6B (fun hHeld => ?_)
    case s6B => exact KS.out _ (by go_grown)
    clear hK K
    try simp only [Act.put, List.setIfInBounds_toArray, List.set_cons_zero, List.set_cons_succ]
    refine wpAnyH_done (by kernel_rfl) ?_ _
    refine NoPanic.normal ?_
    have AT : AttrAt ((w1.setCell ⟨w.heap.size, 0, none⟩ (.int .u16 kind)).setCell ⟨w.heap.size, 1, none⟩ (.slice (some ⟨b1, o1, none⟩) 4 k1)) w.heap.size kind (.slice (some ⟨b1, o1, none⟩) 4 k1) := two_set HNB0.out _ _
    have BW : Below w.heap.size w ((w1.setCell ⟨w.heap.size, 0, none⟩ (.int .u16 kind)).setCell ⟨w.heap.size, 1, none⟩ (.slice (some ⟨b1, o1, none⟩) 4 k1)) := by go_grown
    have CW : ∀ j u, (bytesC l)[j]? = some u → ((w1.setCell ⟨w.heap.size, 0, none⟩ (.int .u16 kind)).setCell ⟨w.heap.size, 1, none⟩ (.slice (some ⟨b1, o1, none⟩) 4 k1)).cell? ⟨b1, o1 + j, none⟩ = some u := fun j u hj => by rw [cell_far2 _ _ _ (by have := (hown1.lt b1 rfl).1; simp at this; simp; omega)]; exact hc1 j u hj
    have HAT := Lib.hid AT
    have HBW := Lib.hid BW
    have HCW := Lib.hid CW
    clear AT BW CW hc1 hr1 hown1 hHeld
    go_wp2_with fail
    refine (attrUint32_calls _ b1 o1 4 k1 kind l _ (by omega) HAT.out (by omega) (by omega) HAB.out hk HCW.out).mono ?_
    rintro e w2 ⟨rfl, hb2⟩
    have B2 : Below w.heap.size w w2 := below_trans HBW.out hb2
    have hnb2 : w2.heap[nb]? = some (.cells #[v0] 23 (0, 0)) := (B2.block nb lnb).trans HNB.out
    have cc := cell_of_one hnb2
    have ff := free_of_one hnb2
    have HN2 := Lib.hid hnb2
    have HB2 := Lib.hid B2
    clear hb2 hnb2 B2
    go_wp2_with fail
    go_ret
    exact ⟨rfl, grown_store HB2.out nb _, one_setCell HN2.out⟩
set_option maxHeartbeats 2000000 in
set_option maxRecDepth 100000 in
theorem number164_calls (kb db nb b o n c : Nat) (kind : Int) (v0 : Value) (l : List Int) (w : World) (hkind : 0 ≤ kind ∧ kind < 65536)
    (hkb : w.heap[kb]? = some (.cells #[.int .i64 kind] 3 (0, 0))) (hdb : w.heap[db]? = some (.cells #[.slice (some ⟨b, o, none⟩) n c] 31 (0, 0))) (hnb : w.heap[nb]? = some (.cells #[v0] 35 (0, 0)))
    (hn : n = 8) (hb : AllB l) (hk : l.length = 8) (hc : ∀ j u, (bytesC l)[j]? = some u → w.cell? ⟨b, o + j, none⟩ = some u) :
    Calls Try.prog 49 #[.pointer (some ⟨kb, 0, none⟩), .pointer (some ⟨db, 0, none⟩), .pointer (some ⟨nb, 0, none⟩)] w fun e w' => e = .returned (.bool true) ∧ w.grownBy w' (some nb) ∧
      w'.heap[nb]? = some (.cells #[.int .u64 (numOf kind l)] 35 (0, 0)) := by
  have ck := cell_of_one hkb
  have cd := cell_of_one hdb
  have KS : Hid (∀ W, Below w.heap.size w W → W.cell? ⟨kb, 0, none⟩ = some (.int .i64 kind) ∧ W.cell? ⟨db, 0, none⟩ = some (.slice (some ⟨b, o, none⟩) n c) ∧ Below w.heap.size w W) := fun W hW =>
    ⟨by rw [hW.cell (World.block_lt_of_cell? w _ ck)]; exact ck, by rw [hW.cell (World.block_lt_of_cell? w _ cd)]; exact cd, hW⟩
  have kw : IntKind.u16.wrap kind = kind := IntWalk.u16_in kind (by omega)
  have HC := Lib.hid hc
  have HAB := Lib.hid hb
  have HNB := Lib.hid hnb
  have lnb := lt_of_block hnb
  subst hn
  clear hc hb hkb hdb hnb
  go_enter Try.func49, Try.ntmps49
  go_wp2_with fail
  refine wp_region_noPanic ?_
  refine wp_region_held_drew (S := fun w' => w'.cell? ⟨kb, 0, none⟩ = some (.int .i64 kind) ∧ w'.cell? ⟨db, 0, none⟩ = some (.slice (some ⟨b, o, none⟩) 8 c) ∧ Below w.heap.size w w') (by kernel_rfl) (KS.out _ ((Below.refl _ _).drew)) (fun hHeld => ?_)
  refine wpAnyH_take (i := 0) (oi := ?o0) (v := ?v0) ?h0 (by kernel_rfl) (by kernel_rfl) (by kernel_rfl) ?q0 (Or.inl ⟨?w0, ?y0⟩) (by assumption) ?r0
  case h0 => (simp only [List.getElem?_toArray, List.getElem?_cons_succ, List.getElem?_cons_zero] <;> rfl)
  case q0 => exact fun _ _ _ h => h
  case w0 => rfl
  case y0 => (intro w hSw; (try dsimp only at hSw); go_simp; (try with_reducible rfl))
  try simp only [Act.put, List.setIfInBounds_toArray, List.set_cons_zero, List.set_cons_succ]
  refine wpAnyH_take (i := 1) (oi := ?o1) (v := ?v1) ?h1 (by kernel_rfl) (by kernel_rfl) (by kernel_rfl) ?q1 (Or.inl ⟨?w1, ?y1⟩) (by assumption) ?r1
  case h1 => (simp only [List.getElem?_toArray, List.getElem?_cons_succ, List.getElem?_cons_zero] <;> rfl)
  case q1 => exact fun _ _ _ h => h
  case w1 => rfl
  case y1 => (intro w hSw; (try dsimp only at hSw); go_simp; (try with_reducible rfl))
  try simp only [Act.put, List.setIfInBounds_toArray, List.set_cons_zero, List.set_cons_succ]
  refine wpAnyH_take (i := 2) (oi := ?o2) (v := ?v2) ?h2 (by kernel_rfl) (by kernel_rfl) (by kernel_rfl) ?q2 (Or.inl ⟨?w2, ?y2⟩) (by assumption) ?r2
  case h2 => (simp only [List.getElem?_toArray, List.getElem?_cons_succ, List.getElem?_cons_zero] <;> rfl)
  case q2 => exact fun _ _ _ h => h
  case w2 => rfl
  case y2 => (intro w hSw; (try dsimp only at hSw); go_simp; (try with_reducible rfl))
  try simp only [Act.put, List.setIfInBounds_toArray, List.set_cons_zero, List.set_cons_succ]
  refine wpAnyH_ready (rs := [3, 5]) (by kernel_rfl) (by simp) ?_
  refine AllReadyH.cons (o := ?o3) ?h3 (fun K hK => ?br3) (AllReadyH.cons (o := ?o5) ?h5 (fun K hK => ?br5) (AllReadyH.nil))
  case h3 => (simp only [List.getElem?_toArray, List.getElem?_cons_succ, List.getElem?_cons_zero] <;> rfl)
  case h5 => (simp only [List.getElem?_toArray, List.getElem?_cons_succ, List.getElem?_cons_zero] <;> rfl)
  case br3 =>
    go_simp
    refine (clone_bytes (some ⟨b, o, none⟩) 8 c (bytesC l) _ (fun _ => ⟨b, o, rfl, by exact cells_below (by go_grown) HC.out⟩) (by rw [bytesC_length, hk]) (by omega) (bytesC_one _) (by intro h; cases h)).mono ?_
    rintro e w1 ⟨v1, rfl, hown1, hnil1, hb1⟩
    obtain ⟨A1, k1, rfl, hk1, hr1, hn1⟩ := Rd.of_own hown1
    obtain ⟨b1, o1, rfl, hc1⟩ := hr1 (by intro h; have := congrArg List.length h; rw [bytesC_length, hk] at this; exact absurd this (by decide))
    have B1 := below_trans (w := w) (by go_grown) hb1
    have hz1 := B1.size
    refine hK.out _ _ ?s3 (fun hHeld => ?_)
    case s3 => exact KS.out _ B1
    clear hK K
    try simp only [Act.put, List.setIfInBounds_toArray, List.set_cons_zero, List.set_cons_succ]
    refine wpAnyH_take (i := 4) (oi := ?o4) (v := ?v4) ?h4 (by kernel_rfl) (by kernel_rfl) (by kernel_rfl) ?q4 (Or.inl ⟨?w4, ?y4⟩) (by assumption) ?r4
    case h4 => (simp only [List.getElem?_toArray, List.getElem?_cons_succ, List.getElem?_cons_zero] <;> rfl)
    case q4 => exact fun _ _ _ h => h
    case w4 => rfl
    case y4 => (intro w hSw; (try dsimp only at hSw); go_simp; (try with_reducible rfl))
    try simp only [Act.put, List.setIfInBounds_toArray, List.set_cons_zero, List.set_cons_succ]
    refine wpAnyH_ready (rs := [5]) (by kernel_rfl) (by simp) ?_
    refine AllReadyH.cons (o := ?o5) ?h5 (fun K hK => ?_) AllReadyH.nil
    case h5 => (simp only [List.getElem?_toArray, List.getElem?_cons_succ, List.getElem?_cons_zero] <;> rfl)
    go_simp
    refine hK.out _ _ ?s5 (fun hHeld => ?_)
    case s5 => exact KS.out _ (by go_grown)
    clear hK K
    try simp only [Act.put, List.setIfInBounds_toArray, List.set_cons_zero, List.set_cons_succ]
    refine wpAnyH_ready (rs := [6]) (by kernel_rfl) (by simp) ?_
    refine AllReadyH.cons (o := ?o6) ?h6 (fun K hK => ?_) AllReadyH.nil
    case h6 => (simp only [List.getElem?_toArray, List.getElem?_cons_succ, List.getElem?_cons_zero] <;> rfl)
    go_simp
    refine hK.out _ _ ?s6 (fun hHeld => ?_)
    case s6 => exact KS.out _ (by go_grown)
    clear hK K
    try simp only [Act.put, List.setIfInBounds_toArray, List.set_cons_zero, List.set_cons_succ]
    refine wpAnyH_done (by kernel_rfl) ?_ _
    refine NoPanic.normal ?_
    have AT : AttrAt (w1.alloc (.cells #[.int .u16 kind, .slice (some ⟨b1, o1, none⟩) 8 k1] 80)) w1.heap.size kind (.slice (some ⟨b1, o1, none⟩) 8 k1) := ⟨(cell_of_row _ _ 0 _ _ (0, 0) (heap_alloc_new w1 _)).trans rfl, (cell_of_row _ _ 1 _ _ (0, 0) (heap_alloc_new w1 _)).trans rfl⟩
    have BW : Below w.heap.size w (w1.alloc (.cells #[.int .u16 kind, .slice (some ⟨b1, o1, none⟩) 8 k1] 80)) := by go_grown
    have CW : ∀ j u, (bytesC l)[j]? = some u → (w1.alloc (.cells #[.int .u16 kind, .slice (some ⟨b1, o1, none⟩) 8 k1] 80)).cell? ⟨b1, o1 + j, none⟩ = some u := cells_below ((Below.refl _ w1).alloc (Nat.le_refl _) _) hc1
    have HAT := Lib.hid AT
    have HBW := Lib.hid BW
    have HCW := Lib.hid CW
    clear AT BW CW hc1 hr1 hown1 hHeld
    go_wp2_with fail
    refine (attrUint64_calls _ b1 o1 8 k1 kind l _ (by omega) HAT.out (by omega) hk1 (by omega) HAB.out hk HCW.out).mono ?_
    rintro e w2 ⟨rfl, hb2⟩
    have B2 : Below w.heap.size w w2 := below_trans HBW.out hb2
    have hnb2 : w2.heap[nb]? = some (.cells #[v0] 35 (0, 0)) := (B2.block nb lnb).trans HNB.out
    have cc := cell_of_one hnb2
    have ff := free_of_one hnb2
    have HN2 := Lib.hid hnb2
    have HB2 := Lib.hid B2
    clear hb2 hnb2 B2
    go_wp2_with fail
    go_ret
    exact ⟨rfl, grown_store HB2.out nb _, one_setCell HN2.out⟩
  case br5 =>
    go_simp
    refine hK.out _ _ ?s5B (fun hHeld => ?_)
    case s5B => exact KS.out _ (by go_grown)
    clear hK K
    try simp only [Act.put, List.setIfInBounds_toArray, List.set_cons_zero, List.set_cons_succ]
    refine wpAnyH_ready (rs := [3]) (by kernel_rfl) (by simp) ?_
    refine AllReadyH.cons (o := ?o3B) ?h3B (fun K hK => ?_) AllReadyH.nil
    case h3B => (simp only [List.getElem?_toArray, List.getElem?_cons_succ, List.getElem?_cons_zero] <;> rfl)
    go_simp
    refine (clone_bytes (some ⟨b, o, none⟩) 8 c (bytesC l) _ (fun _ => ⟨b, o, rfl, by exact cells_below (by go_grown) HC.out⟩) (by rw [bytesC_length, hk]) (by omega) (bytesC_one _) (by intro h; cases h)).mono ?_
    rintro e w1 ⟨v1, rfl, hown1, hnil1, hb1⟩
    obtain ⟨A1, k1, rfl, hk1, hr1, hn1⟩ := Rd.of_own hown1
    obtain ⟨b1, o1, rfl, hc1⟩ := hr1 (by intro h; have := congrArg List.length h; rw [bytesC_length, hk] at this; exact absurd this (by decide))
    have B1 := below_trans (w := w) (by go_grown) hb1
    have hz1 := B1.size
    obtain ⟨nb0, n0, n1, f0, f1⟩ := two_later hb1
    have HNB0 := Lib.hid nb0
    clear nb0
    refine hK.out _ _ ?s3B (fun hHeld => ?_)
    case s3B => exact KS.out _ B1
    clear hK K
    try simp only [Act.put, List.setIfInBounds_toArray, List.set_cons_zero, List.set_cons_succ]
    refine wpAnyH_take (i := 4) (oi := ?o4B) (v := ?v4B) ?h4B (by kernel_rfl) (by kernel_rfl) (by kernel_rfl) ?q4B (Or.inl ⟨?w4B, ?y4B⟩) (by assumption) ?r4B
    case h4B => (simp only [List.getElem?_toArray, List.getElem?_cons_succ, List.getElem?_cons_zero] <;> rfl)
    case q4B => exact fun _ _ _ h => h
    case w4B => rfl
    case y4B => (intro w hSw; (try dsimp only at hSw); go_simp; (try with_reducible rfl))
    try simp only [Act.put, List.setIfInBounds_toArray, List.set_cons_zero, List.set_cons_succ]
    refine wpAnyH_ready (rs := [6]) (by kernel_rfl) (by simp) ?_
    refine AllReadyH.cons (o := ?o6B) ?h6B (fun K hK => ?_) AllReadyH.nil
    case h6B => (simp only [List.getElem?_toArray, List.getElem?_cons_succ, List.getElem?_cons_zero] <;> rfl)
    go_simp
    refine hK.out _ _ ?s6B (fun hHeld => ?_)
    case s6B => exact KS.out _ (by go_grown)
    clear hK K
    try simp only [Act.put, List.setIfInBounds_toArray, List.set_cons_zero, List.set_cons_succ]
    refine wpAnyH_done (by kernel_rfl) ?_ _
    refine NoPanic.normal ?_
    have AT : AttrAt ((w1.setCell ⟨w.heap.size, 0, none⟩ (.int .u16 kind)).setCell ⟨w.heap.size, 1, none⟩ (.slice (some ⟨b1, o1, none⟩) 8 k1)) w.heap.size kind (.slice (some ⟨b1, o1, none⟩) 8 k1) := two_set HNB0.out _ _
    have BW : Below w.heap.size w ((w1.setCell ⟨w.heap.size, 0, none⟩ (.int .u16 kind)).setCell ⟨w.heap.size, 1, none⟩ (.slice (some ⟨b1, o1, none⟩) 8 k1)) := by go_grown
    have CW : ∀ j u, (bytesC l)[j]? = some u → ((w1.setCell ⟨w.heap.size, 0, none⟩ (.int .u16 kind)).setCell ⟨w.heap.size, 1, none⟩ (.slice (some ⟨b1, o1, none⟩) 8 k1)).cell? ⟨b1, o1 + j, none⟩ = some u := fun j u hj => by rw [cell_far2 _ _ _ (by have := (hown1.lt b1 rfl).1; simp at this; simp; omega)]; exact hc1 j u hj
    have HAT := Lib.hid AT
    have HBW := Lib.hid BW
    have HCW := Lib.hid CW
    clear AT BW CW hc1 hr1 hown1 hHeld
    go_wp2_with fail
    refine (attrUint64_calls _ b1 o1 8 k1 kind l _ (by omega) HAT.out (by omega) hk1 (by omega) HAB.out hk HCW.out).mono ?_
    rintro e w2 ⟨rfl, hb2⟩
    have B2 : Below w.heap.size w w2 := below_trans HBW.out hb2
    have hnb2 : w2.heap[nb]? = some (.cells #[v0] 35 (0, 0)) := (B2.block nb lnb).trans HNB.out
    have cc := cell_of_one hnb2
    have ff := free_of_one hnb2
    have HN2 := Lib.hid hnb2
    have HB2 := Lib.hid B2
    clear hb2 hnb2 B2
    go_wp2_with fail
    go_ret
    exact ⟨rfl, grown_store HB2.out nb _, one_setCell HN2.out⟩

set_option maxHeartbeats 1000000 in
set_option maxRecDepth 100000 in
theorem implNumber_calls (b o c : Nat) (kind : Int) (l : List Int) (w : World) (hkind : 0 ≤ kind ∧ kind < 65536) (hb : AllB l) (hk : l.length = 4) (hc : ∀ j u, (bytesC l)[j]? = some u → w.cell? ⟨b, o + j, none⟩ = some u) :
    Calls Try.prog 19 #[.int .i64 kind, .slice (some ⟨b, o, none⟩) 4 c] w fun e w' => e = .returned (.tuple #[.int .u32 (numOf kind l), .bool true]) ∧ Below w.heap.size w w' := by
  have hmf : ∀ (fn : Fn) (first cap : Array Value) (w : World), (Instr.makeFunc fn first cap).run Try.prog w = .ok (.func fn first cap) w := fun _ _ _ _ => rfl
  have HC := Lib.hid hc
  have HAB := Lib.hid hb
  clear hc hb
  go_enter Try.func19, Try.ntmps19
  go_wp2_with fail
  refine (try_calls 47 _ _ (some (w.heap.size + 2)) true (fun w' => w'.heap[w.heap.size + 2]? = some (.cells #[.int .u32 (numOf kind l)] 23 (0, 0))) (fun w => Try.enter47 _ w) (by simp) ?cl ?post).mono ?_
  case cl =>
    refine (number1_calls w.heap.size (w.heap.size + 1) (w.heap.size + 2) b o 4 c kind (.int .u32 0) l _ hkind (alloc_at4 _ _ _ _ _) (alloc_at4' _ _ _ _ _) (alloc_at4'' _ _ _ _ _) rfl HAB.out hk (cells_below (below4 _ _ _ _ _) HC.out)).mono ?_
    rintro e w' ⟨rfl, hg, hv⟩
    exact ⟨rfl, hg, hv⟩
  case post =>
    intro w' h
    rw [Below.heap_setCell _ _ _ _ (by simp)]; exact h
  rintro e w1 ⟨rfl, hg, hv⟩
  have B1 : Below w.heap.size w w1 := below_grown (below3 _ _ _ _) hg (by intro k hk; simp at hk; omega)
  have cc := cell_of_one hv
  have ff := free_of_one hv
  have HV := Lib.hid hv
  have HB := Lib.hid B1
  have hsz : w.heap.size + 2 < w1.heap.size := lt_of_block hv
  clear hg hv B1
  go_wp2_with fail
  have cc2 := cell_of_one (one_setCell (u := .int .u32 (numOf kind l)) HV.out)
  refine bodyPost_ret (v := .tuple #[.int .u32 (numOf kind l), .bool true]) (by simp [results, Try.results19, go_sem, cc2]) rfl ⟨rfl, ?_⟩
  exact HB.out.setCell (show w.heap.size ≤ w.heap.size + 2 by omega) _

set_option maxHeartbeats 1000000 in
set_option maxRecDepth 100000 in
theorem implNumber64_calls (b o c : Nat) (kind : Int) (l : List Int) (w : World) (hkind : 0 ≤ kind ∧ kind < 65536) (hb : AllB l) (hk : l.length = 8) (hc : ∀ j u, (bytesC l)[j]? = some u → w.cell? ⟨b, o + j, none⟩ = some u) :
    Calls Try.prog 20 #[.int .i64 kind, .slice (some ⟨b, o, none⟩) 8 c] w fun e w' => e = .returned (.tuple #[.int .u64 (numOf kind l), .bool true]) ∧ Below w.heap.size w w' := by
  have hmf : ∀ (fn : Fn) (first cap : Array Value) (w : World), (Instr.makeFunc fn first cap).run Try.prog w = .ok (.func fn first cap) w := fun _ _ _ _ => rfl
  have HC := Lib.hid hc
  have HAB := Lib.hid hb
  clear hc hb
  go_enter Try.func20, Try.ntmps20
  go_wp2_with fail
  refine (try_calls 49 _ _ (some (w.heap.size + 2)) true (fun w' => w'.heap[w.heap.size + 2]? = some (.cells #[.int .u64 (numOf kind l)] 35 (0, 0))) (fun w => Try.enter49 _ w) (by simp) ?cl ?post).mono ?_
  case cl =>
    refine (number164_calls w.heap.size (w.heap.size + 1) (w.heap.size + 2) b o 8 c kind (.int .u64 0) l _ hkind (alloc_at4 _ _ _ _ _) (alloc_at4' _ _ _ _ _) (alloc_at4'' _ _ _ _ _) rfl HAB.out hk (cells_below (below4 _ _ _ _ _) HC.out)).mono ?_
    rintro e w' ⟨rfl, hg, hv⟩
    exact ⟨rfl, hg, hv⟩
  case post =>
    intro w' h
    rw [Below.heap_setCell _ _ _ _ (by simp)]; exact h
  rintro e w1 ⟨rfl, hg, hv⟩
  have B1 : Below w.heap.size w w1 := below_grown (below3 _ _ _ _) hg (by intro k hk; simp at hk; omega)
  have cc := cell_of_one hv
  have ff := free_of_one hv
  have HV := Lib.hid hv
  have HB := Lib.hid B1
  have hsz : w.heap.size + 2 < w1.heap.size := lt_of_block hv
  clear hg hv B1
  go_wp2_with fail
  have cc2 := cell_of_one (one_setCell (u := .int .u64 (numOf kind l)) HV.out)
  refine bodyPost_ret (v := .tuple #[.int .u64 (numOf kind l), .bool true]) (by simp [results, Try.results20, go_sem, cc2]) rfl ⟨rfl, ?_⟩
  exact HB.out.setCell (show w.heap.size ≤ w.heap.size + 2 by omega) _
end Go.Proofs.Ytbogknjgjbhagaa
