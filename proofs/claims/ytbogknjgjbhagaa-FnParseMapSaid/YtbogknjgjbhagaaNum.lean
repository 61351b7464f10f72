/- A number of an attribute: by the package's own method, and by the thin package's call. -/
import Derived.Test.YtbogknjgjbhagaaLe
import Derived.Test.YtbogknjgjbhagaaTry
import Derived.Deep.RegionHeld3
namespace Go.Proofs.Ytbogknjgjbhagaa
open Go.RowKit
set_option linter.unusedSimpArgs false

set_option maxHeartbeats 1000000 in
theorem native_calls (w : World) : Calls Try.prog 83 #[] w fun e w' => e = .returned (.agg #[]) ∧ Below w.heap.size w w' := by
  go_enter Try.func83, Try.ntmps83
  go_wp2_with fail
  refine bodyPost_ret (v := .agg #[]) (by simp [results, Try.results83, go_sem]) rfl ⟨rfl, (Below.refl _ w).alloc (Nat.le_refl _) _⟩

theorem and_bit14 (t : Int) (h : 0 ≤ t ∧ t < 65536) : bits .and .u16 t 16384 = t / 16384 % 2 * 16384 := by
  obtain ⟨n, rfl⟩ := Int.eq_ofNat_of_zero_le h.1
  rw [u16_and _ _ (by omega) (by omega) (by omega) (by omega)]
  simp only [Int.toNat_natCast, Int.reduceToNat]
  rw [nat_bit14]
  omega

/-- An attribute's record: its type and its data. -/
def AttrAt (w : World) (p : Nat) (t : Int) (v : Value) : Prop := w.cell? ⟨p, 0, none⟩ = some (.int .u16 t) ∧ w.cell? ⟨p, 1, none⟩ = some v

set_option maxHeartbeats 1000000 in
set_option maxRecDepth 100000 in
theorem attrUint32_net (p b o n c : Nat) (t y : Int) (w : World) (ht : 0 ≤ t ∧ t < 65536) (hbit : t / 16384 % 2 = 1) (ha : AttrAt w p t (.slice (some ⟨b, o, none⟩) n c)) (hn : 4 ≤ n) (h : Be4 w b o y) :
    Calls Try.prog 48 #[.pointer (some ⟨p, 0, none⟩)] w fun e w' => e = .returned (.int .u32 y) ∧ Below w.heap.size w w' := by
  obtain ⟨c0, c1⟩ := ha
  have hand : bits BinOp.and IntKind.u16 t 16384 = 16384 := by rw [and_bit14 t ht, hbit]; rfl
  have H := Lib.hid h
  clear h hbit
  go_enter Try.func48, Try.ntmps48
  go_wp2_with fail
  refine (beUint32_any b o n c 0 y w hn H.out).mono ?_
  rintro e w' ⟨rfl, m, rfl⟩
  go_wp2_with fail
  go_ret
  exact ⟨rfl, below_drewN (Below.refl _ _) m⟩

set_option maxHeartbeats 1000000 in
set_option maxRecDepth 100000 in
theorem attrUint32_host (p b o n c : Nat) (t : Int) (l : List Int) (w : World) (ht : 0 ≤ t ∧ t < 65536) (hbit : t / 16384 % 2 = 0) (ha : AttrAt w p t (.slice (some ⟨b, o, none⟩) n c)) (hn : 4 ≤ n) (hmax : n ≤ 4611686018427387904)
    (hb : AllB l) (hk : l.length = 4) (hc : ∀ j u, (bytesC l)[j]? = some u → w.cell? ⟨b, o + j, none⟩ = some u) :
    Calls Try.prog 48 #[.pointer (some ⟨p, 0, none⟩)] w fun e w' => e = .returned (.int .u32 (leV l)) ∧ Below w.heap.size w w' := by
  obtain ⟨c0, c1⟩ := ha
  have hand : bits BinOp.and IntKind.u16 t 16384 = 0 := by rw [and_bit14 t ht, hbit]; rfl
  have HC := Lib.hid hc
  have HAB := Lib.hid hb
  have C1 := Lib.hid c1
  clear hc hb hbit
  go_enter Try.func48, Try.ntmps48
  go_wp2_with fail
  refine wp_region_held_drew (S := fun w' => w'.cell? ⟨p, 1, none⟩ = some (.slice (some ⟨b, o, none⟩) n c) ∧ Below w.heap.size w w') (by kernel_rfl) ⟨c1, (Below.refl _ _).drew⟩ (fun hHeld => ?_)
  refine wpAnyH_take (i := 1) (oi := ?o1) (v := ?v1) ?h1 (by kernel_rfl) (by kernel_rfl) (by kernel_rfl) ?q1 (Or.inl ⟨?w1, ?y1⟩) (by assumption) ?r1
  case h1 => (simp only [List.getElem?_toArray, List.getElem?_cons_succ, List.getElem?_cons_zero]; rfl)
  case q1 => exact fun _ _ _ h => h
  case w1 => rfl
  case y1 => (intro w hSw; (try dsimp only at hSw); go_simp; (try with_reducible rfl))
  try simp only [Act.put, List.setIfInBounds_toArray, List.set_cons_zero, List.set_cons_succ]
  refine wpAnyH_take (i := 2) (oi := ?o2) (v := ?v2) ?h2 (by kernel_rfl) (by kernel_rfl) (by kernel_rfl) ?q2 (Or.inl ⟨?w2, ?y2⟩) (by assumption) ?r2
  case h2 => (simp only [List.getElem?_toArray, List.getElem?_cons_succ, List.getElem?_cons_zero]; rfl)
  case q2 => exact fun _ _ _ h => h
  case w2 => rfl
  case y2 => (intro w hSw; (try dsimp only at hSw); go_simp; (try with_reducible rfl))
  try simp only [Act.put, List.setIfInBounds_toArray, List.set_cons_zero, List.set_cons_succ]
  refine wpAnyH_take (i := 3) (oi := ?o3) (v := ?v3) ?h3 (by kernel_rfl) (by kernel_rfl) (by kernel_rfl) ?q3 (Or.inl ⟨?w3, ?y3⟩) (by assumption) ?r3
  case h3 => (simp only [List.getElem?_toArray, List.getElem?_cons_succ, List.getElem?_cons_zero]; rfl)
  case q3 => exact fun _ _ _ h => h
  case w3 => rfl
  case y3 => (intro w hSw; (try dsimp only at hSw); go_simp; (try with_reducible rfl))
  try simp only [Act.put, List.setIfInBounds_toArray, List.set_cons_zero, List.set_cons_succ]
  refine wpAnyH_take (i := 4) (oi := ?o4) (v := ?v4) ?h4 (by kernel_rfl) (by kernel_rfl) (by kernel_rfl) ?q4 (Or.inl ⟨?w4, ?y4⟩) (by assumption) ?r4
  case h4 => (simp only [List.getElem?_toArray, List.getElem?_cons_succ, List.getElem?_cons_zero]; rfl)
  case q4 => exact fun _ _ _ h => h
  case w4 => rfl
  case y4 => (intro w hSw; (try dsimp only at hSw); go_simp; (try with_reducible rfl))
  try simp only [Act.put, List.setIfInBounds_toArray, List.set_cons_zero, List.set_cons_succ]
  refine wpAnyH_ready (rs := [0]) (by kernel_rfl) (by simp) ?_
  refine AllReadyH.cons (o := ?o0) ?h0 (fun K hK => ?_) AllReadyH.nil
  case h0 => (simp only [List.getElem?_toArray, List.getElem?_cons_succ, List.getElem?_cons_zero]; rfl)
  go_simp
  refine (native_calls _).mono ?_
  rintro e w1 ⟨rfl, hb1⟩
  have B1 := Lib.hid (show Below w.heap.size w w1 from (Below.refl _ w).drew.trans hb1)
  clear hb1
  refine hK.out _ _ ?s0 (fun hHeld => ?_)
  case s0 => exact ⟨by rw [B1.out.cell (World.block_lt_of_cell? w _ C1.out)]; exact C1.out, B1.out⟩
  clear hK K
  try simp only [Act.put, List.setIfInBounds_toArray, List.set_cons_zero, List.set_cons_succ]
  refine wpAnyH_ready (rs := [5]) (by kernel_rfl) (by simp) ?_
  refine AllReadyH.cons (o := ?o5) ?h5 (fun K hK => ?_) AllReadyH.nil
  case h5 => (simp only [List.getElem?_toArray, List.getElem?_cons_succ, List.getElem?_cons_zero]; rfl)
  go_simp
  refine (leUint32_calls b o n c l w1 HAB.out hk hn hmax (fun j hj => cells_below B1.out HC.out j _ (by simp [bytesC, List.getD_eq_getElem?_getD, List.getElem?_eq_getElem (show j < l.length by omega)]))).mono ?_
  rintro e w2 ⟨rfl, hb2⟩
  have B2 := Lib.hid (show Below w.heap.size w w2 from B1.out.trans (hb2.mono B1.out.size))
  clear hb2
  refine hK.out _ _ ?s5 (fun hHeld => ?_)
  case s5 => exact ⟨by rw [B2.out.cell (World.block_lt_of_cell? w _ C1.out)]; exact C1.out, B2.out⟩
  clear hK K
  try simp only [Act.put, List.setIfInBounds_toArray, List.set_cons_zero, List.set_cons_succ]
  refine wpAnyH_take (i := 6) (oi := ?o6) (v := ?v6) ?h6 (by kernel_rfl) (by kernel_rfl) (by kernel_rfl) ?q6 (Or.inl ⟨?w6, ?y6⟩) (by assumption) ?r6
  case h6 => (simp only [List.getElem?_toArray, List.getElem?_cons_succ, List.getElem?_cons_zero]; rfl)
  case q6 => exact fun _ _ _ h => h
  case w6 => rfl
  case y6 => (intro w hSw; (try dsimp only at hSw); go_simp; (try with_reducible rfl))
  try simp only [Act.put, List.setIfInBounds_toArray, List.set_cons_zero, List.set_cons_succ]
  refine wpAnyH_done (by kernel_rfl) ?_ _
  go_wp2_with fail
  go_ret
  exact ⟨rfl, B2.out⟩
set_option maxHeartbeats 1000000 in
set_option maxRecDepth 100000 in
theorem attrUint64_host (p b o n c : Nat) (t : Int) (l : List Int) (w : World) (ht : 0 ≤ t ∧ t < 65536) (hbit : t / 16384 % 2 = 0) (ha : AttrAt w p t (.slice (some ⟨b, o, none⟩) n c)) (hn : 8 ≤ n) (hmax : n ≤ 4611686018427387904)
    (hb : AllB l) (hk : l.length = 8) (hc : ∀ j u, (bytesC l)[j]? = some u → w.cell? ⟨b, o + j, none⟩ = some u) :
    Calls Try.prog 50 #[.pointer (some ⟨p, 0, none⟩)] w fun e w' => e = .returned (.int .u64 (leV l)) ∧ Below w.heap.size w w' := by
  obtain ⟨c0, c1⟩ := ha
  have hand : bits BinOp.and IntKind.u16 t 16384 = 0 := by rw [and_bit14 t ht, hbit]; rfl
  have HC := Lib.hid hc
  have HAB := Lib.hid hb
  have C1 := Lib.hid c1
  clear hc hb hbit
  go_enter Try.func50, Try.ntmps50
  go_wp2_with fail
  refine wp_region_held_drew (S := fun w' => w'.cell? ⟨p, 1, none⟩ = some (.slice (some ⟨b, o, none⟩) n c) ∧ Below w.heap.size w w') (by kernel_rfl) ⟨c1, (Below.refl _ _).drew⟩ (fun hHeld => ?_)
  refine wpAnyH_take (i := 1) (oi := ?o1) (v := ?v1) ?h1 (by kernel_rfl) (by kernel_rfl) (by kernel_rfl) ?q1 (Or.inl ⟨?w1, ?y1⟩) (by assumption) ?r1
  case h1 => (simp only [List.getElem?_toArray, List.getElem?_cons_succ, List.getElem?_cons_zero]; rfl)
  case q1 => exact fun _ _ _ h => h
  case w1 => rfl
  case y1 => (intro w hSw; (try dsimp only at hSw); go_simp; (try with_reducible rfl))
  try simp only [Act.put, List.setIfInBounds_toArray, List.set_cons_zero, List.set_cons_succ]
  refine wpAnyH_take (i := 2) (oi := ?o2) (v := ?v2) ?h2 (by kernel_rfl) (by kernel_rfl) (by kernel_rfl) ?q2 (Or.inl ⟨?w2, ?y2⟩) (by assumption) ?r2
  case h2 => (simp only [List.getElem?_toArray, List.getElem?_cons_succ, List.getElem?_cons_zero]; rfl)
  case q2 => exact fun _ _ _ h => h
  case w2 => rfl
  case y2 => (intro w hSw; (try dsimp only at hSw); go_simp; (try with_reducible rfl))
  try simp only [Act.put, List.setIfInBounds_toArray, List.set_cons_zero, List.set_cons_succ]
  refine wpAnyH_take (i := 3) (oi := ?o3) (v := ?v3) ?h3 (by kernel_rfl) (by kernel_rfl) (by kernel_rfl) ?q3 (Or.inl ⟨?w3, ?y3⟩) (by assumption) ?r3
  case h3 => (simp only [List.getElem?_toArray, List.getElem?_cons_succ, List.getElem?_cons_zero]; rfl)
  case q3 => exact fun _ _ _ h => h
  case w3 => rfl
  case y3 => (intro w hSw; (try dsimp only at hSw); go_simp; (try with_reducible rfl))
  try simp only [Act.put, List.setIfInBounds_toArray, List.set_cons_zero, List.set_cons_succ]
  refine wpAnyH_take (i := 4) (oi := ?o4) (v := ?v4) ?h4 (by kernel_rfl) (by kernel_rfl) (by kernel_rfl) ?q4 (Or.inl ⟨?w4, ?y4⟩) (by assumption) ?r4
  case h4 => (simp only [List.getElem?_toArray, List.getElem?_cons_succ, List.getElem?_cons_zero]; rfl)
  case q4 => exact fun _ _ _ h => h
  case w4 => rfl
  case y4 => (intro w hSw; (try dsimp only at hSw); go_simp; (try with_reducible rfl))
  try simp only [Act.put, List.setIfInBounds_toArray, List.set_cons_zero, List.set_cons_succ]
  refine wpAnyH_ready (rs := [0]) (by kernel_rfl) (by simp) ?_
  refine AllReadyH.cons (o := ?o0) ?h0 (fun K hK => ?_) AllReadyH.nil
  case h0 => (simp only [List.getElem?_toArray, List.getElem?_cons_succ, List.getElem?_cons_zero]; rfl)
  go_simp
  refine (native_calls _).mono ?_
  rintro e w1 ⟨rfl, hb1⟩
  have B1 := Lib.hid (show Below w.heap.size w w1 from (Below.refl _ w).drew.trans hb1)
  clear hb1
  refine hK.out _ _ ?s0 (fun hHeld => ?_)
  case s0 => exact ⟨by rw [B1.out.cell (World.block_lt_of_cell? w _ C1.out)]; exact C1.out, B1.out⟩
  clear hK K
  try simp only [Act.put, List.setIfInBounds_toArray, List.set_cons_zero, List.set_cons_succ]
  refine wpAnyH_ready (rs := [5]) (by kernel_rfl) (by simp) ?_
  refine AllReadyH.cons (o := ?o5) ?h5 (fun K hK => ?_) AllReadyH.nil
  case h5 => (simp only [List.getElem?_toArray, List.getElem?_cons_succ, List.getElem?_cons_zero]; rfl)
  go_simp
  refine (leUint64_calls b o n c l w1 HAB.out hk hn hmax (fun j hj => cells_below B1.out HC.out j _ (by simp [bytesC, List.getD_eq_getElem?_getD, List.getElem?_eq_getElem (show j < l.length by omega)]))).mono ?_
  rintro e w2 ⟨rfl, hb2⟩
  have B2 := Lib.hid (show Below w.heap.size w w2 from B1.out.trans (hb2.mono B1.out.size))
  clear hb2
  refine hK.out _ _ ?s5 (fun hHeld => ?_)
  case s5 => exact ⟨by rw [B2.out.cell (World.block_lt_of_cell? w _ C1.out)]; exact C1.out, B2.out⟩
  clear hK K
  try simp only [Act.put, List.setIfInBounds_toArray, List.set_cons_zero, List.set_cons_succ]
  refine wpAnyH_take (i := 6) (oi := ?o6) (v := ?v6) ?h6 (by kernel_rfl) (by kernel_rfl) (by kernel_rfl) ?q6 (Or.inl ⟨?w6, ?y6⟩) (by assumption) ?r6
  case h6 => (simp only [List.getElem?_toArray, List.getElem?_cons_succ, List.getElem?_cons_zero]; rfl)
  case q6 => exact fun _ _ _ h => h
  case w6 => rfl
  case y6 => (intro w hSw; (try dsimp only at hSw); go_simp; (try with_reducible rfl))
  try simp only [Act.put, List.setIfInBounds_toArray, List.set_cons_zero, List.set_cons_succ]
  refine wpAnyH_done (by kernel_rfl) ?_ _
  go_wp2_with fail
  go_ret
  exact ⟨rfl, B2.out⟩

set_option maxHeartbeats 1000000 in
set_option maxRecDepth 100000 in
theorem attrUint64_net (p b o n c : Nat) (t hi lo : Int) (u : Value) (w : World) (ht : 0 ≤ t ∧ t < 65536) (hbit : t / 16384 % 2 = 1) (ha : AttrAt w p t (.slice (some ⟨b, o, none⟩) n c)) (hn : 8 ≤ n) (hnc : n ≤ c)
    (h1 : Be4 w b o hi) (h2 : Be4 w b (o + 4) lo) (hu : w.cell? ⟨b, o + 7, none⟩ = some u) :
    Calls Try.prog 50 #[.pointer (some ⟨p, 0, none⟩)] w fun e w' => e = .returned (.int .u64 (hi * 4294967296 + lo)) ∧ Below w.heap.size w w' := by
  obtain ⟨c0, c1⟩ := ha
  have hand : bits BinOp.and IntKind.u16 t 16384 = 16384 := by rw [and_bit14 t ht, hbit]; rfl
  have H1 := Lib.hid h1
  have H2 := Lib.hid h2
  have HU := Lib.hid hu
  clear h1 h2 hbit hu
  go_enter Try.func50, Try.ntmps50
  go_wp2_with fail
  refine (beUint64_calls b o n c 0 hi lo u w hn hnc H1.out H2.out HU.out).mono ?_
  rintro e w' ⟨rfl, m, rfl⟩
  go_wp2_with fail
  go_ret
  exact ⟨rfl, below_drewN (Below.refl _ _) m⟩

/-- The number that an attribute of type t reads out of its data: the highest byte first if bit 14 of the type is set. -/
def numOf (t : Int) (l : List Int) : Int := if t / 16384 % 2 = 1 then leV l.reverse else leV l

theorem be4_of {w : World} {b o : Nat} {l : List Int} (hb : AllB l) (hc : ∀ j u, (bytesC l)[j]? = some u → w.cell? ⟨b, o + j, none⟩ = some u) (k : Nat) (hk : k + 4 ≤ l.length) :
    Be4 w b (o + k) (be32 (l.getD k 0) (l.getD (k + 1) 0) (l.getD (k + 2) 0) (l.getD (k + 3) 0)) := by
  have bd : ∀ j, j < l.length → 0 ≤ l.getD j 0 ∧ l.getD j 0 < 256 := fun j hj => by
    rw [List.getD_eq_getElem?_getD, List.getElem?_eq_getElem hj]; exact hb _ (List.getElem_mem hj)
  have cl : ∀ j, j < l.length → w.cell? ⟨b, o + j, none⟩ = some (.int .u8 (l.getD j 0)) := fun j hj =>
    hc j _ (by simp [bytesC, List.getD_eq_getElem?_getD, List.getElem?_eq_getElem hj])
  exact ⟨_, _, _, _, rfl, bd _ (by omega), bd _ (by omega), bd _ (by omega), bd _ (by omega), cl _ (by omega), by rw [Nat.add_assoc]; exact cl _ (by omega), by rw [Nat.add_assoc]; exact cl _ (by omega), by rw [Nat.add_assoc]; exact cl _ (by omega)⟩

theorem attrUint32_calls (p b o n c : Nat) (t : Int) (l : List Int) (w : World) (ht : 0 ≤ t ∧ t < 65536) (ha : AttrAt w p t (.slice (some ⟨b, o, none⟩) n c)) (hn : 4 ≤ n) (hmax : n ≤ 4611686018427387904)
    (hb : AllB l) (hk : l.length = 4) (hc : ∀ j u, (bytesC l)[j]? = some u → w.cell? ⟨b, o + j, none⟩ = some u) :
    Calls Try.prog 48 #[.pointer (some ⟨p, 0, none⟩)] w fun e w' => e = .returned (.int .u32 (numOf t l)) ∧ Below w.heap.size w w' := by
  unfold numOf
  by_cases h : t / 16384 % 2 = 1
  · rw [if_pos h]
    match l, hk with
    | [x0, x1, x2, x3], _ =>
      have h4 := be4_of hb hc 0 (by simp)
      have e : leV [x0, x1, x2, x3].reverse = be32 x0 x1 x2 x3 := by simp [leV, be32]; omega
      rw [e]
      exact attrUint32_net p b o n c t _ w ht h ha hn h4
  · rw [if_neg h]
    exact attrUint32_host p b o n c t l w ht (by omega) ha hn hmax hb hk hc

theorem attrUint64_calls (p b o n c : Nat) (t : Int) (l : List Int) (w : World) (ht : 0 ≤ t ∧ t < 65536) (ha : AttrAt w p t (.slice (some ⟨b, o, none⟩) n c)) (hn : 8 ≤ n) (hnc : n ≤ c) (hmax : n ≤ 4611686018427387904)
    (hb : AllB l) (hk : l.length = 8) (hc : ∀ j u, (bytesC l)[j]? = some u → w.cell? ⟨b, o + j, none⟩ = some u) :
    Calls Try.prog 50 #[.pointer (some ⟨p, 0, none⟩)] w fun e w' => e = .returned (.int .u64 (numOf t l)) ∧ Below w.heap.size w w' := by
  unfold numOf
  by_cases h : t / 16384 % 2 = 1
  · rw [if_pos h]
    match l, hk with
    | [x0, x1, x2, x3, x4, x5, x6, x7], _ =>
      have h4 := be4_of hb hc 0 (by simp)
      have h5 := be4_of hb hc 4 (by simp)
      have e : leV [x0, x1, x2, x3, x4, x5, x6, x7].reverse = be32 x0 x1 x2 x3 * 4294967296 + be32 x4 x5 x6 x7 := by simp [leV, be32]; omega
      rw [e]
      exact attrUint64_net p b o n c t _ _ _ w ht h ha hn hnc h4 h5 (hc 7 _ rfl)
  · rw [if_neg h]
    exact attrUint64_host p b o n c t l w ht (by omega) ha hn hmax hb hk hc

end Go.Proofs.Ytbogknjgjbhagaa
