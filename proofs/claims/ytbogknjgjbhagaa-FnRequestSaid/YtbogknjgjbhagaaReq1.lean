/- The package's request: made, filled with attributes, its head in bytes. -/
import Derived.Test.YtbogknjgjbhagaaAtt9
namespace Go.Proofs.Ytbogknjgjbhagaa
open Go.RowKit
set_option linter.unusedSimpArgs false

def orOne (f : Int) : Int := ((f.toNat ||| 1 : Nat) : Int)
theorem orOne_bound (f : Int) (h : 0 ≤ f ∧ f < 65536) : 0 ≤ orOne f ∧ orOne f < 65536 := by
  have := Nat.or_lt_two_pow (x := f.toNat) (y := 1) (n := 16) (by omega) (by omega)
  unfold orOne
  omega
theorem or1_u16 (f : Int) (h : 0 ≤ f ∧ f < 65536) : bits .or .u16 1 f = orOne f := by
  rw [u16_or _ _ (by omega) (by omega) (by omega) (by omega), Nat.or_comm]; rfl
theorem or1_i64 (f : Int) (h : 0 ≤ f ∧ f < 65536) : bits .or .i64 f 1 = orOne f := by
  obtain ⟨n, rfl⟩ := Int.eq_ofNat_of_zero_le h.1
  have e4 : (BitVec.ofInt 64 (1 : Int)).toNat = 1 := by decide
  have ex : (BitVec.ofInt 64 (n : Int)).toNat = n := by
    rw [BitVec.ofInt_natCast, BitVec.toNat_ofNat]; exact Nat.mod_eq_of_lt (by omega)
  have hb := orOne_bound _ h
  unfold orOne at hb
  show IntKind.i64.wrap ((BitVec.ofInt 64 (n : Int) ||| BitVec.ofInt 64 1).toNat : Nat) = _
  rw [BitVec.toNat_or, ex, e4, IntKind.wrap_i64]
  unfold orOne
  simp only [Int.toNat_natCast] at hb ⊢
  omega

/-- The bytes of a request. -/
def reqB (proto flags seq : Int) (body : List Int) : List Int := lowB ((body.length : Int) + 16) 4 ++ lowB proto 2 ++ lowB (orOne flags) 2 ++ lowB seq 4 ++ [0, 0, 0, 0] ++ body

def ReqAt (w : World) (p : Nat) (L t f s : Int) (dv rv : Value) : Prop := w.heap[p]? = some (.cells #[.int .u32 L, .int .u16 t, .int .u16 f, .int .u32 s, .int .u32 0, dv, rv] 136 (0, 0))

set_option maxHeartbeats 1000000 in
set_option maxRecDepth 100000 in
theorem newReq_calls (t f s : Int) (w : World) (ht : 0 ≤ t ∧ t ≤ 65535) (hf : 0 ≤ f ∧ f ≤ 65535) (_hs : 0 ≤ s ∧ s < 4294967296) :
    Calls Try.prog 65 #[.int .i64 t, .int .i64 f, .int .u32 s] w fun e w' => ∃ p, e = .returned (.pointer (some ⟨p, 0, none⟩)) ∧ w.heap.size ≤ p ∧ ReqAt w' p 16 t (orOne f) s (.slice none 0 0) (.slice none 0 0) ∧ Below w.heap.size w w' := by
  have wt : IntKind.u16.wrap t = t := IntWalk.u16_in _ (by omega)
  have wf : IntKind.u16.wrap f = f := IntWalk.u16_in _ (by omega)
  have wo := or1_u16 f (by omega)
  go_enter Try.func65, Try.ntmps65
  go_wp2_with fail
  go_ret
  exact ⟨_, rfl, Nat.le_refl _, heap_alloc_new w _, (Below.refl _ w).alloc (Nat.le_refl _) _⟩

/-- What a call that adds one leaves. -/
def AddDPost (w : World) (base p : Nat) (L t f s : Int) (cv rv : Value) (k : Nat) (xs : List Value) (x : Value) (w' : World) : Prop :=
  ∃ A' c', ReqAt w' p L t f s (.slice A' (k + 1) c') rv ∧ w'.ownsRow base 131 1 (.slice A' (k + 1) c') (k + 1) (xs ++ [x]) ∧
    (∀ b, b < w.heap.size → b ≠ p → cv.ownBlock ≠ some b → w'.heap[b]? = w.heap[b]?) ∧ (∀ b, (Value.slice A' (k + 1) c').ownBlock = some b → cv.ownBlock = some b ∨ w.heap.size ≤ b) ∧ w.heap.size ≤ w'.heap.size ∧ Below base w w'

theorem addD_run (w : World) (base p : Nat) (L t f s : Int) (cv rv : Value) (k : Nat) (xs : List Value) (g : Nat) (hp : ReqAt w p L t f s cv rv) (hown : w.ownsRow base 131 1 cv k xs) (hbp : base ≤ p) (hbw : base ≤ w.heap.size) (hk : k ≤ 1000000) :
    ∃ A' c' w', (Builtin.append_ #[127, 127] 127 #[cv, .slice (some ⟨w.heap.size, 0, none⟩) 1 1]).run Try.prog (w.alloc (.cells #[.iface 99 (.pointer (some ⟨g, 0, none⟩))] 131)) = .ok (.slice A' (k + 1) c') w' ∧ w'.cell? ⟨p, 5, none⟩ = some cv ∧ w'.frozen? ⟨p, 5, none⟩ = false ∧
      AddDPost w base p L t f s cv rv k xs (.iface 99 (.pointer (some ⟨g, 0, none⟩))) (w'.setCell ⟨p, 5, none⟩ (.slice A' (k + 1) c')) := by
  obtain ⟨i0, hi, hz0, hz1, hz2⟩ := info_parts Try.info131
  have D : Below w.heap.size w (w.alloc (.cells #[.iface 99 (.pointer (some ⟨g, 0, none⟩))] 131)) := (Below.refl _ _).alloc (Nat.le_refl _) _
  have hp1 := (D.block p (lt_of_block hp)).trans hp
  obtain ⟨v', w', hr, ho, hg, hwh⟩ := run_append_where (P := Try.prog) (w.alloc (.cells #[.iface 99 (.pointer (some ⟨g, 0, none⟩))] 131)) base 127 127 131 i0 .nilIface 1 16 Try.underlying127 hi hz0 hz1 hz2 rfl (by decide) cv k xs (own_below hown D) ⟨w.heap.size, 0, none⟩ 1 1 [.iface 99 (.pointer (some ⟨g, 0, none⟩))] rfl (cell_one_new _ _ _) (by intro u hu; simp at hu; subst hu; rfl) (by unfold maxLen; omega) (by omega) (by simp; omega)
  obtain ⟨A', c', rfl, -, -, -⟩ := Rd.of_own ho
  have hcvp : cv.ownBlock ≠ some p := fun e => by
    obtain ⟨-, cur, h2⟩ := own_block hown p e
    rw [hp] at h2
    injection h2 with h2
    injection h2 with _ h2
    exact absurd h2 (by decide)
  have hp2 := (hg.block p (lt_of_block hp1) (fun e => hcvp e.symm)).trans hp1
  have hszg := hg.size
  have hszw : (w.alloc (.cells #[.iface 99 (.pointer (some ⟨g, 0, none⟩))] 131)).heap.size = w.heap.size + 1 := by simp
  have hnp : (Value.slice A' (k + 1) c').ownBlock ≠ some p := fun e => by
    rcases hwh p e with h | h
    · exact hcvp h
    · have := lt_of_block hp; omega
  refine ⟨A', c', w', hr, (cell_of_row _ _ 5 _ _ (0, 0) hp2).trans rfl, frozen_of_row _ _ 5 _ _ hp2, A', c', heap_setCell_same w' p 5 _ _ _ hp2, ownsRow_setCell_other ho (fun e => hnp e) _, fun b hb hbp2 hcb => ?_, fun b e => (hwh b e).imp id (fun h => by omega), by simp [World.setCell]; omega, ?_⟩
  · rw [Below.heap_setCell _ _ _ _ (by simpa using hbp2), hg.block b (by omega) (fun e => hcb e.symm)]
    exact D.block b hb
  · exact (((D.mono hbw).grown hg (by omega) (fun q hq => (hown.lt q hq).1)).setCell hbp _)

set_option maxHeartbeats 1000000 in
set_option maxRecDepth 100000 in
theorem addData_calls (base p g : Nat) (L t f s : Int) (cv rv : Value) (k : Nat) (xs : List Value) (w : World) (hp : ReqAt w p L t f s cv rv) (hown : w.ownsRow base 131 1 cv k xs) (hbp : base ≤ p) (hbw : base ≤ w.heap.size) (hk : k ≤ 1000000) :
    Calls Try.prog 66 #[.pointer (some ⟨p, 0, none⟩), .iface 99 (.pointer (some ⟨g, 0, none⟩))] w fun e w' => e = .returned (.tuple #[]) ∧ AddDPost w base p L t f s cv rv k xs (.iface 99 (.pointer (some ⟨g, 0, none⟩))) w' := by
  obtain ⟨A', c', w', hrun, q1, q2, q3⟩ := addD_run w base p L t f s cv rv k xs g hp hown hbp hbw hk
  have c3 : w.cell? ⟨p, 5, none⟩ = some cv := (cell_of_row _ _ 5 _ _ (0, 0) hp).trans rfl
  obtain ⟨Ac, cc, rfl, -, -, -⟩ := Rd.of_own hown
  have Q3 := Lib.hid q3
  clear q3 hp hown
  go_enter Try.func66, Try.ntmps66
  go_wp2_with (at_builtin; refine wpList_app rfl _ _ 127 rfl rfl rfl hrun ?_)
  go_end0
  exact ⟨rfl, Q3.out⟩

/-- Where the request stands that is filled: its record, its row of attributes so far. -/
structure ReqSt (w wr : World) (p : Nat) (L t f s : Int) (k : Nat) (cv rv : Value) (gs : List Nat) (ks' : List Tree) : Prop where
  lo : w.heap.size ≤ p
  rec_ : ReqAt wr p L t f s cv rv
  own : wr.ownsRow w.heap.size 131 1 cv k (gs.map fun g => .iface 99 (.pointer (some ⟨g, 0, none⟩)))
  kids : gs.length = ks'.length ∧ ∀ (i : Nat) (g : Nat) (x : Tree), gs[i]? = some g → ks'[i]? = some x → RAt wr (fun b => w.heap.size ≤ b ∧ b < wr.heap.size ∧ b ≠ p ∧ cv.ownBlock ≠ some b) g x
  len : ks'.length = k
  below : Below w.heap.size w wr

theorem ReqSt.later {w wr W : World} {p : Nat} {L t f s : Int} {k : Nat} {cv rv : Value} {gs : List Nat} {ks' : List Tree} (h : ReqSt w wr p L t f s k cv rv gs ks') (hb : Below wr.heap.size wr W) : ReqSt w W p L t f s k cv rv gs ks' := by
  have hz := hb.size
  exact ⟨h.lo, (hb.block p (lt_of_block h.rec_)).trans h.rec_, own_below h.own hb,
    ⟨h.kids.1, fun i g x e1 e2 => RAt.keep (fun b hF => ⟨hb.block b hF.2.1, hF.1, by omega, hF.2.2⟩) _ _ (h.kids.2 i g x e1 e2)⟩, h.len, below_trans h.below hb⟩

/-- One more behind the others. -/
theorem ReqSt.next {w w0 w1 w' : World} {p : Nat} {L t f s : Int} {k : Nat} {cv rv : Value} {gs : List Nat} {ks' : List Tree} (h : ReqSt w w1 p L t f s k cv rv gs ks') {g : Nat} {x : Tree}
    (hx : RAt w1 (fun b => w0.heap.size ≤ b ∧ b < w1.heap.size) g x) (h0 : w.heap.size ≤ w0.heap.size) (hp0 : p < w0.heap.size) (hcv : ∀ b, cv.ownBlock = some b → b < w0.heap.size)
    (ha : AddDPost w1 w.heap.size p L t f s cv rv k (gs.map fun g => .iface 99 (.pointer (some ⟨g, 0, none⟩))) (.iface 99 (.pointer (some ⟨g, 0, none⟩))) w') :
    ∃ cv', ReqSt w w' p L t f s (k + 1) cv' rv (gs ++ [g]) (ks' ++ [x]) := by
  obtain ⟨A', c', a1, a2, a3, a4, a5, a6⟩ := ha
  have new : ∀ b, w.heap.size ≤ b → b < w1.heap.size → b ≠ p → cv.ownBlock ≠ some b → w'.heap[b]? = w1.heap[b]? ∧ w.heap.size ≤ b ∧ b < w'.heap.size ∧ b ≠ p ∧ (Value.slice A' (k + 1) c').ownBlock ≠ some b := fun b h1 h2 h3 h4 =>
    ⟨a3 b h2 h3 h4, h1, by omega, h3, fun e => by
      rcases a4 b e with h5 | h5
      · exact h4 h5
      · omega⟩
  refine ⟨_, h.lo, a1, by rw [List.map_append]; exact a2, ⟨by simp [h.kids.1], fun i g' x' e1 e2 => ?_⟩, by rw [List.length_append, h.len, List.length_singleton], h.below.trans a6⟩
  by_cases hi : i < gs.length
  · rw [List.getElem?_append_left hi] at e1
    rw [List.getElem?_append_left (by rw [← h.kids.1]; exact hi)] at e2
    exact RAt.keep (fun b hF => new b hF.1 hF.2.1 hF.2.2.1 hF.2.2.2) _ _ (h.kids.2 i g' x' e1 e2)
  · rw [List.getElem?_append_right (by omega)] at e1
    rw [List.getElem?_append_right (by rw [← h.kids.1]; omega)] at e2
    have e : i - gs.length = 0 := by
      have := (List.getElem?_eq_some_iff.1 e1).1
      simp at this; omega
    rw [← h.kids.1] at e2
    rw [e] at e1 e2
    simp at e1 e2
    subst e1 e2
    exact RAt.keep (fun b hF => new b (by omega) hF.2 (by omega) (fun e => by have := hcv b e; omega)) _ _ hx

/-- Raw bytes put into the request. -/
def RawPost (w : World) (p : Nat) (L t f s : Int) (dv : Value) (d : List Int) (w' : World) : Prop :=
  ∃ A' c' w1, ReqAt w' p L t f s dv (.slice A' d.length c') ∧ w1.ownsRow w.heap.size 5 1 (.slice A' d.length c') d.length (bytesC d) ∧ Below w.heap.size w w1 ∧ w' = w1.setCell ⟨p, 6, none⟩ (.slice A' d.length c')

set_option maxHeartbeats 1000000 in
set_option maxRecDepth 100000 in
theorem addRaw_calls (p : Nat) (L t f s : Int) (dv : Value) (A : Option Addr) (c : Nat) (d : List Int) (w : World) (hp : ReqAt w p L t f s dv (.slice none 0 0)) (hr : Rd w A (bytesC d)) (hA : A = none → d = []) (hbig : d.length ≤ 1000000) :
    Calls Try.prog 67 #[.pointer (some ⟨p, 0, none⟩), .slice A d.length c] w fun e w' => e = .returned (.tuple #[]) ∧ RawPost w p L t f s dv d w' := by
  obtain ⟨A', c', w', hrun, hown, hb⟩ := app_own w.heap.size none 0 0 [] A d.length c d w (World.ownsRow_nil _ _ _ _) hr rfl (fun h => by rw [hA h]; rfl) (by omega) (Nat.le_refl _)
  rw [Nat.zero_add, List.nil_append] at *
  have hp1 : ReqAt w' p L t f s dv (.slice none 0 0) := (hb.block p (lt_of_block hp)).trans hp
  have c3 : w.cell? ⟨p, 6, none⟩ = some (.slice none 0 0) := (cell_of_row _ _ 6 _ _ (0, 0) hp).trans rfl
  have c4 : w'.cell? ⟨p, 6, none⟩ = some (.slice none 0 0) := (cell_of_row _ _ 6 _ _ (0, 0) hp1).trans rfl
  have f4 : w'.frozen? ⟨p, 6, none⟩ = false := frozen_of_row _ _ 6 _ _ hp1
  have HP1 := Lib.hid hp1
  have HO := Lib.hid hown
  have HB := Lib.hid hb
  clear hp hr hA hp1 hown hb
  go_enter Try.func67, Try.ntmps67
  go_wp2_with (at_builtin; refine wpList_app rfl _ _ 31 rfl rfl rfl hrun ?_)
  go_end0
  exact ⟨rfl, A', c', w', heap_setCell_same w' p 6 _ _ _ HP1.out, HO.out, HB.out, rfl⟩

set_option maxHeartbeats 2000000 in
set_option maxRecDepth 100000 in
theorem encHdr_calls (p : Nat) (L t f s q : Int) (w : World) (hL : 0 ≤ L ∧ L < 4294967296) (ht : 0 ≤ t ∧ t < 65536) (hf : 0 ≤ f ∧ f < 65536) (hs : 0 ≤ s ∧ s < 4294967296) (hq : 0 ≤ q ∧ q < 4294967296) (cL : w.cell? ⟨p, 0, none⟩ = some (.int .u32 L)) (ct : w.cell? ⟨p, 1, none⟩ = some (.int .u16 t)) (cf : w.cell? ⟨p, 2, none⟩ = some (.int .u16 f)) (cs : w.cell? ⟨p, 3, none⟩ = some (.int .u32 s)) (cq : w.cell? ⟨p, 4, none⟩ = some (.int .u32 q)) :
    Calls Try.prog 95 #[.pointer (some ⟨p, 0, none⟩)] w fun e w' => ∃ v, e = .returned v ∧ w'.ownsRow w.heap.size 5 1 v 16 (bytesC (lowB L 4 ++ lowB t 2 ++ lowB f 2 ++ lowB s 4 ++ lowB q 4)) ∧ Below w.heap.size w w' := by
  obtain ⟨i0, hi, hz0, hz1, hz2⟩ := info_parts Try.info5
  have xL : IntKind.u64.wrap L = L := IntWalk.u64_in _ (by omega)
  have CL := Lib.hid cL
  have xt : IntKind.u64.wrap t = t := IntWalk.u64_in _ (by omega)
  have Ct := Lib.hid ct
  have xf : IntKind.u64.wrap f = f := IntWalk.u64_in _ (by omega)
  have Cf := Lib.hid cf
  have xs : IntKind.u64.wrap s = s := IntWalk.u64_in _ (by omega)
  have Cs := Lib.hid cs
  have xq : IntKind.u64.wrap q = q := IntWalk.u64_in _ (by omega)
  have Cq := Lib.hid cq
  clear cL ct cf cs cq
  go_enter Try.func95, Try.ntmps95
  go_wp2_with (at_make; go_must (refine wpList_make_full _ rfl _ _ 31 rfl w.heap.size 5 i0 (.int .u8 0) 1 Try.underlying31 hi hz0 hz1 .i64 .i64 _ _ 16 rfl rfl (by omega) (by omega) (by rw [hz2]; omega) (by unfold maxLen; omega) (Nat.le_refl _) ?_))
  intro w0 hown hgrow
  rw [toList_madeCells_one] at hown
  have B0 := Lib.hid ((Below.refl _ w).grown hgrow (Nat.le_refl _) (by intro k hk; cases hk))
  have O0 := Lib.hid hown
  clear hown hgrow
  have dL := cells_one B0.out CL.out
  go_wp2_with fail
  refine (putLE_calls w.heap.size w.heap.size 16 16 0 16 16 0 4 0 4 _ L _ (by omega) O0.out (by decide) (by decide) (by decide) (by decide) rfl rfl).mono ?_
  rintro e w1 ⟨rfl, ho, hg⟩
  have B1 := Lib.hid (B0.out.grown hg B0.out.size (fun k hk => by injection hk with hk; omega))
  have O1 := Lib.hid ho
  clear ho hg dL
  have dt := cells_one B1.out Ct.out
  go_wp2_with fail
  refine (putLE_calls w.heap.size w.heap.size 16 16 0 16 16 4 2 4 2 _ t _ (by omega) O1.out (by decide) (by decide) (by decide) (by decide) rfl rfl).mono ?_
  rintro e w2 ⟨rfl, ho, hg⟩
  have B2 := Lib.hid (B1.out.grown hg B1.out.size (fun k hk => by injection hk with hk; omega))
  have O2 := Lib.hid ho
  clear ho hg dt
  have df := cells_one B2.out Cf.out
  go_wp2_with fail
  refine (putLE_calls w.heap.size w.heap.size 16 16 0 16 16 6 2 6 2 _ f _ (by omega) O2.out (by decide) (by decide) (by decide) (by decide) rfl rfl).mono ?_
  rintro e w3 ⟨rfl, ho, hg⟩
  have B3 := Lib.hid (B2.out.grown hg B2.out.size (fun k hk => by injection hk with hk; omega))
  have O3 := Lib.hid ho
  clear ho hg df
  have ds := cells_one B3.out Cs.out
  go_wp2_with fail
  refine (putLE_calls w.heap.size w.heap.size 16 16 0 16 16 8 4 8 4 _ s _ (by omega) O3.out (by decide) (by decide) (by decide) (by decide) rfl rfl).mono ?_
  rintro e w4 ⟨rfl, ho, hg⟩
  have B4 := Lib.hid (B3.out.grown hg B3.out.size (fun k hk => by injection hk with hk; omega))
  have O4 := Lib.hid ho
  clear ho hg ds
  have dq := cells_one B4.out Cq.out
  go_wp2_with fail
  refine (putLE_calls w.heap.size w.heap.size 16 16 0 16 16 12 4 12 4 _ q _ (by omega) O4.out (by decide) (by decide) (by decide) (by decide) rfl rfl).mono ?_
  rintro e w5 ⟨rfl, ho, hg⟩
  have B5 := Lib.hid (B4.out.grown hg B4.out.size (fun k hk => by injection hk with hk; omega))
  have O5 := Lib.hid ho
  clear ho hg dq
  go_wp2_with fail
  go_ret
  refine ⟨_, rfl, ?_, B5.out⟩
  have h := O5.out
  have e : putB (putB (putB (putB (putB (List.replicate 16 (Value.int .u8 0)) (0 + 0) L 4) (0 + 4) t 2) (0 + 6) f 2) (0 + 8) s 4) (0 + 12) q 4 = bytesC (lowB L 4 ++ lowB t 2 ++ lowB f 2 ++ lowB s 4 ++ lowB q 4) := by simp [putB, List.range_succ, bytesC, lowB, List.replicate]
  rw [e] at h
  exact h
end Go.Proofs.Ytbogknjgjbhagaa
