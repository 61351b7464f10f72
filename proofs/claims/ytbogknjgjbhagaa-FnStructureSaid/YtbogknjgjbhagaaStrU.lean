/- The thin package's Format and Read of a structure. -/
import Derived.Test.YtbogknjgjbhagaaStrT
namespace Go.Proofs.Ytbogknjgjbhagaa
open Go.RowKit
set_option linter.unusedSimpArgs false

theorem Try.enter72 (args : Array Value) (w : World) : (callFunc 72 args).run Try.prog w = .ok (.enter 72 args) w := by kernel_rfl
theorem Try.enter74 (args : Array Value) (w : World) : (callFunc 74 args).run Try.prog w = .ok (.enter 74 args) w := by kernel_rfl

/-- What formatted does at one structure's numbers, in whatever later world. -/
def Forms (K : Int) (v : Value) (B : List Int) (w : World) : Prop := ∀ W, Below w.heap.size w W → Calls Try.prog 73 #[.int .i64 K, v] W fun e w' => ∃ v', e = .returned v' ∧ w'.ownsRow W.heap.size 5 1 v' B.length (bytesC B) ∧ Below W.heap.size W w'

set_option maxHeartbeats 1000000 in
set_option maxRecDepth 100000 in
theorem format1_calls (K : Int) (kb fb ob : Nat) (A : Option Addr) (n c : Nat) (B : List Int) (w : World) (hk : w.heap[kb]? = some (.cells #[.int .i64 K] 3 (0, 0))) (hf : w.heap[fb]? = some (.cells #[.slice A n c] 69 (0, 0))) (hob : w.heap[ob]? = some (.cells #[.slice none 0 0] 31 (0, 0)))
    (hform : Forms K (.slice A n c) B w) (hB : B.length ≤ 1000) :
    Calls Try.prog 72 #[.pointer (some ⟨kb, 0, none⟩), .pointer (some ⟨fb, 0, none⟩), .pointer (some ⟨ob, 0, none⟩)] w fun e w' => e = .returned (.bool true) ∧ w.grownBy w' (some ob) ∧ OutRow ob w.heap.size 31 5 B.length (bytesC B) w' := by
  have ck := cell_of_one hk
  have cf := cell_of_one hf
  have HOB := Lib.hid hob
  have HF := Lib.hid hform
  have lob := lt_of_block hob
  obtain ⟨q, hq⟩ : ∃ q, q = B.length := ⟨_, rfl⟩
  rw [← hq] at hB
  have HQ := Lib.hid hq
  clear hk hf hob hform hq
  go_enter Try.func72, Try.ntmps72
  go_wp2_with fail
  refine (HF.out w (Below.refl _ _)).mono ?_
  rintro e w2 ⟨v2, rfl, hown2, hb2⟩
  rw [← HQ.out] at hown2
  obtain ⟨A2, c2, rfl, hc2, hr2, hn2⟩ := Rd.of_own hown2
  have HR2 := Lib.hid hr2
  have HN2 := Lib.hid hn2
  have HB2 := Lib.hid hb2
  clear hown2 hb2 hr2 hn2
  go_wp2_with fail
  refine (clone_bytes A2 q c2 (bytesC B) w2 HR2.out (by rw [bytesC_length]; exact HQ.out.symm) (by omega) (bytesC_one _) (fun h => (HN2.out h).1)).mono ?_
  rintro e w3 ⟨v3, rfl, hown3, -, hb3⟩
  obtain ⟨A3, c3, rfl, -, -, -⟩ := Rd.of_own hown3
  have B3 := below_trans HB2.out hb3
  have hob3 := (B3.block ob lob).trans HOB.out
  have cc := cell_of_one hob3
  have ff := free_of_one hob3
  have HB3 := Lib.hid B3
  have HO3 := Lib.hid hown3
  have HOB3 := Lib.hid hob3
  have hsz2 := HB2.out.size
  clear hown3 hb3 B3 hob3
  go_wp2_with fail
  go_ret
  refine ⟨rfl, grown_store HB3.out ob _, _, one_setCell HOB3.out, ?_⟩
  rw [← HQ.out]
  refine ownsRow_setCell_other (own_lower HO3.out hsz2) (fun e => ?_) _
  have := (HO3.out.lt _ e).1
  simp at this
  omega

theorem three_at (w : World) (a b c : Obj) : ∃ W, W = ((w.alloc a).alloc b).alloc c ∧ W.heap[w.heap.size]? = some a ∧ W.heap[w.heap.size + 1]? = some b ∧ W.heap[w.heap.size + 2]? = some c ∧ W.heap.size = w.heap.size + 3 ∧ Below w.heap.size w W :=
  ⟨_, rfl, alloc_at3 w a b c, alloc_at3' w a b c, by have h := heap_alloc_new ((w.alloc a).alloc b) c; simpa using h, by simp, below3 w a b c⟩

set_option maxHeartbeats 1000000 in
set_option maxRecDepth 100000 in
theorem format_calls (K : Int) (bl : List Int) (hbits : ∀ w, Calls Try.prog 96 #[.int .i64 K] w fun e w' => BitsPost bl w e w') (b o c : Nat) (l : List Int) (B : List Int) (w : World) (hl : l.length = bl.length) (h9 : bl.length ≤ 9)
    (hcell : ∀ j u, (u64C l)[j]? = some u → w.cell? ⟨b, o + j, none⟩ = some u) (hok : ∀ (i : Nat) (s x : Int), bl[i]? = some s → l[i]? = some x → BitOk s x) (hform : Forms K (.slice (some ⟨b, o, none⟩) l.length c) B w) (hB : B.length ≤ 1000) :
    Calls Try.prog 35 #[.int .i64 K, .slice (some ⟨b, o, none⟩) l.length c] w fun e w' => ∃ v, e = .returned (.tuple #[v, .bool true]) ∧ w'.ownsRow w.heap.size 5 1 v B.length (bytesC B) ∧ Below w.heap.size w w' := by
  have hmf : ∀ (fn : Fn) (first cap : Array Value) (w : World), (Instr.makeFunc fn first cap).run Try.prog w = .ok (.func fn first cap) w := fun _ _ _ _ => rfl
  obtain ⟨W, hW, a0, a1, a2, hsz, hB3⟩ := three_at w (.cells #[.int .i64 K] 3) (.cells #[.slice (some ⟨b, o, none⟩) l.length c] 69) (.cells #[.slice none 0 0] 31)
  have HW := Lib.hid hW
  have A0 := Lib.hid a0
  have A1 := Lib.hid a1
  have A2 := Lib.hid a2
  have HB3 := Lib.hid hB3
  have HSZ := Lib.hid hsz
  have HC := Lib.hid hcell
  have HOK := Lib.hid hok
  have HF := Lib.hid hform
  have HBI := Lib.hid hbits
  have HL := Lib.hid hl
  clear hW a0 a1 a2 hsz hB3 hcell hok hform hbits hl
  go_enter Try.func35, Try.ntmps35
  go_wp2_with fail
  rw [← HW.out]
  refine (fit_calls K bl HBI.out b o c l W HL.out h9 (fun j u hj => cells_one HB3.out (HC.out j u hj)) HOK.out).mono ?_
  rintro e w1 ⟨rfl, hb1⟩
  have hsz := HSZ.out
  have hszw := HB3.out.size
  have hz1 := hb1.size
  have e0 := (hb1.block _ (by omega)).trans A0.out
  have e1 := (hb1.block _ (by omega)).trans A1.out
  have e2 := (hb1.block _ (by omega)).trans A2.out
  have BW := Lib.hid (HB3.out.trans (hb1.mono hszw))
  have E0 := Lib.hid e0
  have E1 := Lib.hid e1
  have E2 := Lib.hid e2
  clear hb1 e0 e1 e2
  go_wp2_with fail
  have D1 : Below w1.heap.size w1 (w1.alloc (.cells #[.bool false] 4)) := (Below.refl _ _).alloc (Nat.le_refl _) _
  have fc := format1_calls K w.heap.size (w.heap.size + 1) (w.heap.size + 2) (some ⟨b, o, none⟩) l.length c B (w1.alloc (.cells #[.bool false] 4)) ((D1.block _ (by omega)).trans E0.out) ((D1.block _ (by omega)).trans E1.out) ((D1.block _ (by omega)).trans E2.out)
    (fun W' hW' => HF.out W' ((BW.out.trans (D1.mono (by omega))).trans (hW'.mono (by have := D1.size; omega)))) hB
  refine (try_calls 72 _ _ (some (w.heap.size + 2)) true (OutRow (w.heap.size + 2) (w1.heap.size + 1) 31 5 B.length (bytesC B)) (fun w => Try.enter72 _ w) (by simp; omega) ?cl ?post).mono ?_
  case cl =>
    refine fc.mono ?_
    rintro e w' ⟨rfl, hg, v, hv, ho⟩
    exact ⟨rfl, hg, v, hv, by simpa using ho⟩
  case post =>
    intro w' h
    exact h.far (by simp; omega) (by simp) _
  rintro e w2 ⟨rfl, hg, v, hv, hown⟩
  have B1 : Below w.heap.size w w2 := below_grown BW.out hg (by intro k hk; simp at hk; omega)
  obtain ⟨A1', k, rfl, -, -, -⟩ := Rd.of_own hown
  have cc := cell_of_one hv
  have ff := free_of_one hv
  have HV := Lib.hid hv
  have HO := Lib.hid hown
  have HBB := Lib.hid B1
  clear hg hv hown B1 fc D1
  go_wp2_with fail
  have cc2 := cell_of_one (one_setCell (u := .slice A1' B.length k) HV.out)
  refine bodyPost_ret (v := .tuple #[.slice A1' B.length k, .bool true]) (by simp [results, Try.results35, go_sem, cc2]) rfl ⟨_, rfl, ?_, ?_⟩
  · refine ownsRow_setCell_other (own_lower HO.out (by omega)) (fun e => ?_) _
    have := (HO.out.lt _ e).1
    simp at this
    omega
  · exact HBB.out.setCell (by simp; omega) _

/-- What numbers does at one structure's bytes, in whatever world. -/
def Nums (K : Int) (B : List Int) (l : List Int) : Prop := ∀ (b o c : Nat) (W : World), B.length ≤ c → (∀ j u, (bytesC B)[j]? = some u → W.cell? ⟨b, o + j, none⟩ = some u) →
  Calls Try.prog 75 #[.int .i64 K, .slice (some ⟨b, o, none⟩) B.length c] W fun e w' => ∃ g, e = .returned (.slice (some ⟨g, 0, none⟩) l.length l.length) ∧ W.heap.size ≤ g ∧ w'.heap[g]? = some (.cells (u64C l).toArray 35 (0, 0)) ∧ Below W.heap.size W w'

def NumOut (ob base : Nat) (l : List Int) (w : World) : Prop := ∃ g, w.heap[ob]? = some (.cells #[.slice (some ⟨g, 0, none⟩) l.length l.length] 69 (0, 0)) ∧ base ≤ g ∧ w.heap[g]? = some (.cells (u64C l).toArray 35 (0, 0))

set_option maxHeartbeats 1000000 in
set_option maxRecDepth 100000 in
theorem read1_calls (K : Int) (kb bb ob : Nat) (A : Option Addr) (c : Nat) (B l : List Int) (w : World) (hk : w.heap[kb]? = some (.cells #[.int .i64 K] 3 (0, 0))) (hbb : w.heap[bb]? = some (.cells #[.slice A B.length c] 31 (0, 0))) (hob : w.heap[ob]? = some (.cells #[.slice none 0 0] 69 (0, 0)))
    (hr : BytesAt w (.slice A B.length c) B) (hnum : Nums K B l) (hB : B.length ≤ 1000) (hB0 : 0 < B.length) :
    Calls Try.prog 74 #[.pointer (some ⟨kb, 0, none⟩), .pointer (some ⟨bb, 0, none⟩), .pointer (some ⟨ob, 0, none⟩)] w fun e w' => e = .returned (.bool true) ∧ w.grownBy w' (some ob) ∧ NumOut ob w.heap.size l w' := by
  have q69 : ∀ (w : World) (a : Option Addr) (n c n' c' : Nat), (binOp .neq 69 (.slice a n c) (.slice none n' c')).run Try.prog w = .ok (.bool (!a.isNone)) w := fun w a n c n' c' => run_neq_slice_nil_any w _ _ a n c n' c' Try.underlying69
  have ck := cell_of_one hk
  have cb := cell_of_one hbb
  have co := cell_of_one hob
  have fo := free_of_one hob
  have HOB := Lib.hid hob
  have HR := Lib.hid hr
  have HNUM := Lib.hid hnum
  have lob := lt_of_block hob
  obtain ⟨q, hq⟩ : ∃ q, q = B.length := ⟨_, rfl⟩
  rw [← hq] at hB hB0 cb HR
  have HQ := Lib.hid hq
  have KS : Hid (∀ w' : World, Below w.heap.size w w' → w'.cell? ⟨kb, 0, none⟩ = some (.int .i64 K) ∧ w'.cell? ⟨bb, 0, none⟩ = some (.slice A q c)) := fun W hW => ⟨cells_one hW ck, cells_one hW cb⟩
  have hkne : kb ≠ ob := fun e => by
    rw [e, hob] at hk
    injection hk with hk
    injection hk with _ hk
    exact absurd hk (by decide)
  have hbne : bb ≠ ob := fun e => by
    rw [e, hob] at hbb
    injection hbb with hbb
    injection hbb with _ hbb
    exact absurd hbb (by decide)
  clear hk hbb hob hr hnum hq
  go_enter Try.func74, Try.ntmps74
  go_wp2_with fail
  refine wp_region_held_drew (S := fun w' => w'.cell? ⟨kb, 0, none⟩ = some (.int .i64 K) ∧ w'.cell? ⟨bb, 0, none⟩ = some (.slice A q c)) (by kernel_rfl) (KS.out _ (Below.refl _ _).drew) (fun hHeld => ?_)
  refine wpAnyH_take (i := 0) (oi := ?o0) (v := ?v0) ?h0 (by kernel_rfl) (by kernel_rfl) (by kernel_rfl) ?q0 (Or.inl ⟨?w0, ?y0⟩) (by assumption) ?r0
  case h0 => (simp only [List.getElem?_toArray, List.getElem?_cons_succ, List.getElem?_cons_zero] <;> rfl)
  case q0 => exact fun _ _ _ h => h
  case w0 => rfl
  case y0 => (intro w hSw; (try dsimp only at hSw); go_simp; (try with_reducible rfl))
  try simp only [Act.put, List.setIfInBounds_toArray, List.set_cons_zero, List.set_cons_succ]
  refine wpAnyH_take (i := 1) (oi := ?o1) (v := ?v1) ?h1 (by kernel_rfl) (by kernel_rfl) (by kernel_rfl) ?q1 (Or.inl ⟨?w1, ?y1⟩) (by assumption) ?r1
  case h1 => (simp only [List.getElem?_toArray, List.getElem?_cons_succ, List.getElem?_cons_zero] <;> rfl)
  case q1 => exact fun _ _ _ h => h
  case w1 => rfl
  case y1 => (intro w hSw; (try dsimp only at hSw); go_simp; (try with_reducible rfl))
  try simp only [Act.put, List.setIfInBounds_toArray, List.set_cons_zero, List.set_cons_succ]
  refine wpAnyH_ready (rs := [2]) (by kernel_rfl) (by simp) ?_
  refine AllReadyH.cons (o := ?o2) ?h2 (fun K hK => ?_) AllReadyH.nil
  case h2 => (simp only [List.getElem?_toArray, List.getElem?_cons_succ, List.getElem?_cons_zero] <;> rfl)
  go_simp
  refine (clone_bytes A q c (bytesC B) _ (HR.out.rd.below (Below.refl _ _).drew) (by rw [bytesC_length]; exact HQ.out.symm) (by omega) (bytesC_one _) HR.out.nil0).mono ?_
  rintro e w2 ⟨v2, rfl, hown2, -, hb2⟩
  have B2 := below_trans (w := w) (Below.refl _ _).drew hb2
  obtain ⟨A2, c2, rfl, hc2, hr2, -⟩ := Rd.of_own hown2
  obtain ⟨b3, o3, rfl, hcell3⟩ := hr2 (bytesC_ne (by rw [← HQ.out]; exact hB0))
  have HCELL := Lib.hid hcell3
  have HB2 := Lib.hid B2
  clear hown2 hb2 hr2 hcell3
  refine hK.out _ _ ?s2 (fun hHeld => ?_)
  case s2 => exact KS.out _ B2
  clear hK K
  try simp only [Act.put, List.setIfInBounds_toArray, List.set_cons_zero, List.set_cons_succ]
  refine wpAnyH_ready (rs := [3]) (by kernel_rfl) (by simp) ?_
  refine AllReadyH.cons (o := ?o3) ?h3 (fun K hK => ?_) AllReadyH.nil
  case h3 => (simp only [List.getElem?_toArray, List.getElem?_cons_succ, List.getElem?_cons_zero] <;> rfl)
  go_simp
  have nc := HNUM.out b3 o3 c2 w2 (by rw [← HQ.out]; exact hc2) HCELL.out
  rw [← HQ.out] at nc
  refine nc.mono ?_
  rintro e w3 ⟨g, rfl, hgg, hg, hb3⟩
  have B3 := below_trans HB2.out hb3
  have hob3 := (B3.block ob lob).trans HOB.out
  have co3 := cell_of_one hob3
  have fo3 := free_of_one hob3
  have hsz2 := HB2.out.size
  have HB3 := Lib.hid B3
  have HG3 := Lib.hid hg
  have HOB3 := Lib.hid hob3
  have hgo : g ≠ ob := by omega
  clear nc hb3 hg hob3
  refine hK.out _ _ ?s3 (fun hHeld => ?_)
  case s3 => exact KS.out _ B3
  clear hK K
  try simp only [Act.put, List.setIfInBounds_toArray, List.set_cons_zero, List.set_cons_succ]
  refine wpAnyH_ready (rs := [4]) (by kernel_rfl) (by simp) ?_
  refine AllReadyH.cons (o := ?o4) ?h4 (fun K hK => ?_) AllReadyH.nil
  case h4 => (simp only [List.getElem?_toArray, List.getElem?_cons_succ, List.getElem?_cons_zero] <;> rfl)
  go_simp
  refine hK.out _ _ ?s4 (fun hHeld => ?_)
  case s4 => exact ⟨(World.cell?_of_block (a := ⟨kb, 0, none⟩) (Below.heap_setCell _ _ _ _ (by simpa using hkne))).trans (KS.out _ HB3.out).1, (World.cell?_of_block (a := ⟨bb, 0, none⟩) (Below.heap_setCell _ _ _ _ (by simpa using hbne))).trans (KS.out _ HB3.out).2⟩
  clear hK K
  try simp only [Act.put, List.setIfInBounds_toArray, List.set_cons_zero, List.set_cons_succ]
  refine wpAnyH_done (by kernel_rfl) ?_ _
  clear hHeld
  go_wp2_with fail
  go_ret
  exact ⟨rfl, grown_store HB3.out ob _, g, one_setCell HOB3.out, by omega, (Below.heap_setCell _ _ _ _ (by simpa using hgo)).trans HG3.out⟩

set_option maxHeartbeats 1000000 in
set_option maxRecDepth 100000 in
theorem read_calls (K : Int) (A : Option Addr) (c : Nat) (B l : List Int) (w : World) (hr : BytesAt w (.slice A B.length c) B) (hnum : Nums K B l) (hB : B.length ≤ 1000) (hB0 : 0 < B.length) :
    Calls Try.prog 36 #[.int .i64 K, .slice A B.length c] w fun e w' => ∃ g, e = .returned (.tuple #[.slice (some ⟨g, 0, none⟩) l.length l.length, .bool true]) ∧ w'.heap[g]? = some (.cells (u64C l).toArray 35 (0, 0)) ∧ Below w.heap.size w w' := by
  have hmf : ∀ (fn : Fn) (first cap : Array Value) (w : World), (Instr.makeFunc fn first cap).run Try.prog w = .ok (.func fn first cap) w := fun _ _ _ _ => rfl
  obtain ⟨W, hW, a0, a1, a2, hsz, hB3⟩ := three_at w (.cells #[.int .i64 K] 3) (.cells #[.slice A B.length c] 31) (.cells #[.slice none 0 0] 69)
  have HW := Lib.hid hW
  have A0 := Lib.hid a0
  have A1 := Lib.hid a1
  have A2 := Lib.hid a2
  have HB3 := Lib.hid hB3
  have HSZ := Lib.hid hsz
  have HR := Lib.hid hr
  have HN := Lib.hid hnum
  clear hW a0 a1 a2 hsz hB3 hr hnum
  go_enter Try.func36, Try.ntmps36
  go_wp2_with fail
  rw [← HW.out]
  have hsz := HSZ.out
  have D1 : Below W.heap.size W (W.alloc (.cells #[.bool false] 4)) := (Below.refl _ _).alloc (Nat.le_refl _) _
  have rc := read1_calls K w.heap.size (w.heap.size + 1) (w.heap.size + 2) A c B l (W.alloc (.cells #[.bool false] 4)) ((D1.block _ (by omega)).trans A0.out) ((D1.block _ (by omega)).trans A1.out) ((D1.block _ (by omega)).trans A2.out)
    (HR.out.below (HB3.out.trans (D1.mono (by omega)))) HN.out hB hB0
  refine (try_calls 74 _ _ (some (w.heap.size + 2)) true (NumOut (w.heap.size + 2) (W.heap.size + 1) l) (fun w => Try.enter74 _ w) (by simp; omega) ?cl ?post).mono ?_
  case cl =>
    refine rc.mono ?_
    rintro e w' ⟨rfl, hg, g, hv, hgg, ho⟩
    exact ⟨rfl, hg, g, hv, by simpa using hgg, ho⟩
  case post =>
    intro w' h
    obtain ⟨g, h1, h2, h3⟩ := h
    exact ⟨g, (Below.heap_setCell _ _ _ _ (by simp; omega)).trans h1, h2, (Below.heap_setCell _ _ _ _ (by simp; omega)).trans h3⟩
  rintro e w2 ⟨rfl, hg, g, hv, hgg, hgc⟩
  have B1 : Below w.heap.size w w2 := below_grown HB3.out hg (by intro k hk; simp at hk; omega)
  have cc := cell_of_one hv
  have ff := free_of_one hv
  have HV := Lib.hid hv
  have HGC := Lib.hid hgc
  have HBB := Lib.hid B1
  clear hg hv hgc B1 rc D1
  go_wp2_with fail
  have cc2 := cell_of_one (one_setCell (u := .slice (some ⟨g, 0, none⟩) l.length l.length) HV.out)
  refine bodyPost_ret (v := .tuple #[.slice (some ⟨g, 0, none⟩) l.length l.length, .bool true]) (by simp [results, Try.results36, go_sem, cc2]) rfl ⟨_, rfl, ?_, ?_⟩
  · exact (Below.heap_setCell _ _ _ _ (by simp; omega)).trans HGC.out
  · exact HBB.out.setCell (by simp; omega) _
end Go.Proofs.Ytbogknjgjbhagaa
