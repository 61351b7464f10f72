/- The package's attributes built. -/
import Derived.Test.YtbogknjgjbhagaaAtt5
namespace Go.Proofs.Ytbogknjgjbhagaa
open Go.RowKit
set_option linter.unusedSimpArgs false

set_option maxHeartbeats 1000000 in
set_option maxRecDepth 100000 in
theorem new_calls (t : Int) (A : Option Addr) (n c : Nat) (w : World) (ht : 0 ≤ t ∧ t ≤ 65535) :
    Calls Try.prog 90 #[.int .i64 t, .slice A n c] w fun e w' => ∃ g cv, e = .returned (.pointer (some ⟨g, 0, none⟩)) ∧ w.heap.size ≤ g ∧ w'.heap[g]? = some (.cells #[.int .u16 0, .int .u16 t, .slice A n c, cv] 129 (0, 0)) ∧ w'.ownsRow w.heap.size 131 1 cv 0 [] ∧ Below w.heap.size w w' := by
  have wt : IntKind.u16.wrap t = t := IntWalk.u16_in _ (by omega)
  go_enter Try.func90, Try.ntmps90
  go_wp2_with fail
  go_ret
  exact ⟨_, _, rfl, by omega, by simpa using heap_alloc_new (w.alloc (.cells #[] 131)) _, (World.ownsRow_made w #[] 0 (Nat.le_refl _) (Nat.zero_le _) rfl).alloc _, below2 w _ _⟩

theorem Try.info131 : (Try.prog.info? 131).map (fun i => (i.zero, i.size, i.bytes)) = some (some .nilIface, 1, 16) := by kernel_rfl

/-- What a call that adds one leaves: the attribute's row is longer by it; all else is as it was. -/
def AddPost (w : World) (base p : Nat) (t : Int) (dv cv : Value) (k : Nat) (xs : List Value) (x : Value) (w' : World) : Prop :=
  ∃ A' c', w'.heap[p]? = some (.cells #[.int .u16 0, .int .u16 t, dv, .slice A' (k + 1) c'] 129 (0, 0)) ∧ w'.ownsRow base 131 1 (.slice A' (k + 1) c') (k + 1) (xs ++ [x]) ∧
    (∀ b, b < w.heap.size → b ≠ p → cv.ownBlock ≠ some b → w'.heap[b]? = w.heap[b]?) ∧ (∀ b, (Value.slice A' (k + 1) c').ownBlock = some b → cv.ownBlock = some b ∨ w.heap.size ≤ b) ∧ w.heap.size ≤ w'.heap.size ∧ Below base w w'

/-- The append and the store, told once. -/
theorem add_run (w : World) (base p : Nat) (t : Int) (dv cv : Value) (k : Nat) (xs : List Value) (g : Nat) (hp : w.heap[p]? = some (.cells #[.int .u16 0, .int .u16 t, dv, cv] 129 (0, 0))) (hown : w.ownsRow base 131 1 cv k xs) (hbp : base ≤ p) (hbw : base ≤ w.heap.size) (hk : k ≤ 1000000) :
    ∃ A' c' w', (Builtin.append_ #[127, 127] 127 #[cv, .slice (some ⟨w.heap.size, 0, none⟩) 1 1]).run Try.prog (w.alloc (.cells #[.iface 99 (.pointer (some ⟨g, 0, none⟩))] 131)) = .ok (.slice A' (k + 1) c') w' ∧ w'.cell? ⟨p, 3, none⟩ = some cv ∧ w'.frozen? ⟨p, 3, none⟩ = false ∧
      AddPost w base p t dv cv k xs (.iface 99 (.pointer (some ⟨g, 0, none⟩))) (w'.setCell ⟨p, 3, none⟩ (.slice A' (k + 1) c')) := by
  obtain ⟨i0, hi, hz0, hz1, hz2⟩ := info_parts Try.info131
  have D : Below w.heap.size w (w.alloc (.cells #[.iface 99 (.pointer (some ⟨g, 0, none⟩))] 131)) := (Below.refl _ _).alloc (Nat.le_refl _) _
  have hp1 := (D.block p (lt_of_block hp)).trans hp
  obtain ⟨v', w', hr, ho, hg, hwh⟩ := run_append_where (P := Try.prog) (w.alloc (.cells #[.iface 99 (.pointer (some ⟨g, 0, none⟩))] 131)) base 127 127 131 i0 .nilIface 1 16 Try.underlying127 hi hz0 hz1 hz2 rfl (by decide) cv k xs (own_below hown D) ⟨w.heap.size, 0, none⟩ 1 1 [.iface 99 (.pointer (some ⟨g, 0, none⟩))] rfl (cell_one_new _ _ _) (by intro u hu; simp at hu; subst hu; rfl) (by unfold maxLen; omega) (by omega) (by simp; omega)
  obtain ⟨A', c', rfl, -, -, -⟩ := Rd.of_own ho
  have hcvp : cv.ownBlock ≠ some p := fun e => by
    obtain ⟨-, cur, h2⟩ := own_block hown p e
    rw [hp] at h2
    injection h2 with h2
    injection h2 with _ h2
    exact absurd h2 (by decide)
  have hp2 := (hg.block p (lt_of_block hp1) (fun e => hcvp e.symm)).trans hp1
  have hszg := hg.size
  have hszw : (w.alloc (.cells #[.iface 99 (.pointer (some ⟨g, 0, none⟩))] 131)).heap.size = w.heap.size + 1 := by simp
  have hnp : (Value.slice A' (k + 1) c').ownBlock ≠ some p := fun e => by
    rcases hwh p e with h | h
    · exact hcvp h
    · have := lt_of_block hp; omega
  refine ⟨A', c', w', hr, (cell_of_row _ _ 3 _ _ (0, 0) hp2).trans rfl, frozen_of_row _ _ 3 _ _ hp2, A', c', heap_setCell_same w' p 3 _ _ _ hp2, ownsRow_setCell_other ho (fun e => hnp e) _, fun b hb hbp2 hcb => ?_, fun b e => (hwh b e).imp id (fun h => by omega), by simp [World.setCell]; omega, ?_⟩
  · rw [Below.heap_setCell _ _ _ _ (by simpa using hbp2), hg.block b (by omega) (fun e => hcb e.symm)]
    exact D.block b hb
  · exact (((D.mono hbw).grown hg (by omega) (fun q hq => (hown.lt q hq).1)).setCell hbp _)

set_option maxHeartbeats 1000000 in
set_option maxRecDepth 100000 in
theorem addChild_calls (base p g : Nat) (t : Int) (dv cv : Value) (k : Nat) (xs : List Value) (w : World) (hp : w.heap[p]? = some (.cells #[.int .u16 0, .int .u16 t, dv, cv] 129 (0, 0))) (hown : w.ownsRow base 131 1 cv k xs) (hbp : base ≤ p) (hbw : base ≤ w.heap.size) (hk : k ≤ 1000000) :
    Calls Try.prog 92 #[.pointer (some ⟨p, 0, none⟩), .iface 99 (.pointer (some ⟨g, 0, none⟩))] w fun e w' => e = .returned (.tuple #[]) ∧ AddPost w base p t dv cv k xs (.iface 99 (.pointer (some ⟨g, 0, none⟩))) w' := by
  obtain ⟨A', c', w', hrun, q1, q2, q3⟩ := add_run w base p t dv cv k xs g hp hown hbp hbw hk
  have c3 : w.cell? ⟨p, 3, none⟩ = some cv := (cell_of_row _ _ 3 _ _ (0, 0) hp).trans rfl
  obtain ⟨Ac, cc, rfl, -, -, -⟩ := Rd.of_own hown
  have Q3 := Lib.hid q3
  clear q3 hp hown
  go_enter Try.func92, Try.ntmps92
  go_wp2_with (at_builtin; refine wpList_app rfl _ _ 127 rfl rfl rfl hrun ?_)
  go_end0
  exact ⟨rfl, Q3.out⟩

def AddNewPost (w : World) (base p : Nat) (t : Int) (dv cv : Value) (k : Nat) (xs : List Value) (t' : Int) (v' : Value) (e : Ending) (w' : World) : Prop :=
  ∃ g w1 cvn, e = .returned (.pointer (some ⟨g, 0, none⟩)) ∧ Below w.heap.size w w1 ∧ w.heap.size ≤ g ∧ w1.heap[g]? = some (.cells #[.int .u16 0, .int .u16 t', v', cvn] 129 (0, 0)) ∧ w1.ownsRow w.heap.size 131 1 cvn 0 [] ∧ AddPost w1 base p t dv cv k xs (.iface 99 (.pointer (some ⟨g, 0, none⟩))) w'

set_option maxHeartbeats 1000000 in
set_option maxRecDepth 100000 in
theorem addRtAttr_calls (base p : Nat) (t : Int) (dv cv : Value) (k : Nat) (xs : List Value) (t' : Int) (A : Option Addr) (n c : Nat) (w : World) (ht : 0 ≤ t' ∧ t' ≤ 65535) (hp : w.heap[p]? = some (.cells #[.int .u16 0, .int .u16 t, dv, cv] 129 (0, 0))) (hown : w.ownsRow base 131 1 cv k xs) (hbp : base ≤ p) (hbw : base ≤ w.heap.size) (hk : k ≤ 1000000) :
    Calls Try.prog 91 #[.pointer (some ⟨p, 0, none⟩), .int .i64 t', .slice A n c] w fun e w' => AddNewPost w base p t dv cv k xs t' (.slice A n c) e w' := by
  have HP := Lib.hid hp
  have HO := Lib.hid hown
  obtain ⟨Ac, cc, rfl, -, -, -⟩ := Rd.of_own hown
  clear hp hown
  go_enter Try.func91, Try.ntmps91
  go_wp2_with fail
  refine (new_calls t' A n c w ht).mono ?_
  rintro e w1 ⟨g, cvn, rfl, hg, hgx, hgo, hb⟩
  have hp1 := (hb.block p (lt_of_block HP.out)).trans HP.out
  obtain ⟨A', c', w', hrun, q1, q2, q3⟩ := add_run w1 base p t dv _ k xs g hp1 (own_below HO.out hb) hbp (Nat.le_trans hbw hb.size) hk
  have c3 : w1.cell? ⟨p, 3, none⟩ = some (.slice Ac k cc) := (cell_of_row _ _ 3 _ _ (0, 0) hp1).trans rfl
  have Q3 := Lib.hid q3
  have HB := Lib.hid hb
  have HGX := Lib.hid hgx
  have HGO := Lib.hid hgo
  clear q3 hp1 hb hgx hgo
  go_wp2_with (at_builtin; refine wpList_app rfl _ _ 127 rfl rfl rfl hrun ?_)
  go_ret
  exact ⟨g, w1, cvn, rfl, HB.out, hg, HGX.out, HGO.out, Q3.out⟩

/-- Where the attribute that is built stands: its record, its data, its row of others so far. -/
structure GivSt (w wr : World) (p : Nat) (t : Int) (d : List Int) (k : Nat) (dv cv : Value) (gs : List Nat) (ks' : List Tree) : Prop where
  lo : w.heap.size ≤ p
  rec_ : wr.heap[p]? = some (.cells #[.int .u16 0, .int .u16 t, dv, cv] 129 (0, 0))
  own : wr.ownsRow w.heap.size 131 1 cv k (gs.map fun g => .iface 99 (.pointer (some ⟨g, 0, none⟩)))
  data : BytesF wr (fun b => w.heap.size ≤ b ∧ b < wr.heap.size ∧ b ≠ p ∧ cv.ownBlock ≠ some b) dv d
  kids : gs.length = ks'.length ∧ ∀ (i : Nat) (g : Nat) (x : Tree), gs[i]? = some g → ks'[i]? = some x → RAt wr (fun b => w.heap.size ≤ b ∧ b < wr.heap.size ∧ b ≠ p ∧ cv.ownBlock ≠ some b) g x
  len : ks'.length = k
  below : Below w.heap.size w wr

theorem GivSt.later {w wr W : World} {p : Nat} {t : Int} {d : List Int} {k : Nat} {dv cv : Value} {gs : List Nat} {ks' : List Tree} (h : GivSt w wr p t d k dv cv gs ks') (hb : Below wr.heap.size wr W) : GivSt w W p t d k dv cv gs ks' := by
  have hz := hb.size
  exact ⟨h.lo, (hb.block p (lt_of_block h.rec_)).trans h.rec_, own_below h.own hb, h.data.keep fun b hF => ⟨hb.block b hF.2.1, hF.1, by omega, hF.2.2⟩,
    ⟨h.kids.1, fun i g x e1 e2 => RAt.keep (fun b hF => ⟨hb.block b hF.2.1, hF.1, by omega, hF.2.2⟩) _ _ (h.kids.2 i g x e1 e2)⟩, h.len, below_trans h.below hb⟩

/-- One more behind the others: it lies in memory that is newer than the attribute's own. -/
theorem GivSt.next {w w0 w1 w' : World} {p : Nat} {t : Int} {d : List Int} {k : Nat} {dv cv : Value} {gs : List Nat} {ks' : List Tree} (h : GivSt w w1 p t d k dv cv gs ks') {g : Nat} {x : Tree}
    (hx : RAt w1 (fun b => w0.heap.size ≤ b ∧ b < w1.heap.size) g x) (h0 : w.heap.size ≤ w0.heap.size) (hp0 : p < w0.heap.size) (hcv : ∀ b, cv.ownBlock = some b → b < w0.heap.size)
    (ha : AddPost w1 w.heap.size p t dv cv k (gs.map fun g => .iface 99 (.pointer (some ⟨g, 0, none⟩))) (.iface 99 (.pointer (some ⟨g, 0, none⟩))) w') :
    ∃ cv', GivSt w w' p t d (k + 1) dv cv' (gs ++ [g]) (ks' ++ [x]) := by
  obtain ⟨A', c', a1, a2, a3, a4, a5, a6⟩ := ha
  have new : ∀ b, w.heap.size ≤ b → b < w1.heap.size → b ≠ p → cv.ownBlock ≠ some b → w'.heap[b]? = w1.heap[b]? ∧ w.heap.size ≤ b ∧ b < w'.heap.size ∧ b ≠ p ∧ (Value.slice A' (k + 1) c').ownBlock ≠ some b := fun b h1 h2 h3 h4 =>
    ⟨a3 b h2 h3 h4, h1, by omega, h3, fun e => by
      rcases a4 b e with h5 | h5
      · exact h4 h5
      · omega⟩
  refine ⟨_, h.lo, a1, by rw [List.map_append]; exact a2, h.data.keep fun b hF => new b hF.1 hF.2.1 hF.2.2.1 hF.2.2.2, ⟨by simp [h.kids.1], fun i g' x' e1 e2 => ?_⟩, by rw [List.length_append, h.len, List.length_singleton], h.below.trans a6⟩
  by_cases hi : i < gs.length
  · rw [List.getElem?_append_left hi] at e1
    rw [List.getElem?_append_left (by rw [← h.kids.1]; exact hi)] at e2
    exact RAt.keep (fun b hF => new b hF.1 hF.2.1 hF.2.2.1 hF.2.2.2) _ _ (h.kids.2 i g' x' e1 e2)
  · rw [List.getElem?_append_right (by omega)] at e1
    rw [List.getElem?_append_right (by rw [← h.kids.1]; omega)] at e2
    have e : i - gs.length = 0 := by
      have := (List.getElem?_eq_some_iff.1 e1).1
      simp at this; omega
    rw [← h.kids.1] at e2
    rw [e] at e1 e2
    simp at e1 e2
    subst e1 e2
    exact RAt.keep (fun b hF => new b (by omega) hF.2 (by omega) (fun e => by have := hcv b e; omega)) _ _ hx
end Go.Proofs.Ytbogknjgjbhagaa
