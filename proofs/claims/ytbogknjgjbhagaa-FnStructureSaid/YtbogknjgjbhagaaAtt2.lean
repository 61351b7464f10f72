/- The statement's copy of an attribute: the attribute itself, or one whose type is none. -/
import Derived.Test.YtbogknjgjbhagaaAtt
import Derived.Test.YtbogknjgjbhagaaPar4
namespace Go.Proofs.Ytbogknjgjbhagaa
open Go.RowKit
set_option linter.unusedSimpArgs false

theorem Try.info60 : (Try.prog.info? 60).map (fun i => (i.zero, i.size, i.bytes)) = some (some (.agg #[.int .i64 0, .slice none 0 0, .slice none 0 0]), 3, 56) := by kernel_rfl

/-- An append to a row of one's own: in its own block, or in a new one. -/
theorem run_append_where {P : Program} (w : World) (base : Nat) (t ty e : TypeId) (i : TypeInfo) (z : Value) (size bytes : Nat) (ht : P.underlying t = some (.slice e)) (hi : P.info? e = some i) (hz : i.zero = some z)
    (hsize : i.size = size) (hby : i.bytes = bytes) (hzs : z.cells.size = size) (hsz : 0 < size) (v : Value) (n : Nat) (xs : List Value) (hown : w.ownsRow base e size v n xs)
    (a : Addr) (m c : Nat) (news : List Value) (hl : news.length = m * size) (hnews : ∀ j u, news[j]? = some u → w.cell? (a.add j) = some u) (h1 : ∀ u ∈ news, u.oneCell' = true)
    (h63 : n + m ≤ maxLen) (hbytes : (n + m) * bytes ≤ 140737488355328) (hbase : base ≤ w.heap.size) :
    ∃ v' w', (Builtin.append_ #[t, t] ty #[v, .slice (some a) m c]).run P w = .ok v' w' ∧ w'.ownsRow base e size v' (n + m) (xs ++ news) ∧ w.grownBy w' v.ownBlock ∧ ∀ g, v'.ownBlock = some g → v.ownBlock = some g ∨ w.heap.size ≤ g := by
  rcases hown.2 with ⟨rfl, rfl⟩ | ⟨g, cap, cur, rfl, hb, hg, hnc, hcm, hcs, hxs⟩
  · have hx : xs = [] := List.eq_nil_of_length_eq_zero (by simpa using hown.1)
    subst hx
    obtain ⟨v', w', r1, r2, r3, -⟩ := run_append_own (P := P) w w.heap.size t ty e i z size bytes ht hi hz hsize hby hzs hsz (.slice none 0 0) 0 [] (World.ownsRow_nil _ _ _ _) a m c news hl hnews h1 h63 hbytes (Nat.le_refl _)
    exact ⟨v', w', r1, own_lower r2 hbase, r3, fun g hg => .inr (own_block r2 g hg).1⟩
  · by_cases hroom : n + m ≤ cap
    · obtain ⟨v', w', r1, r2, r3, -⟩ := run_append_own (P := P) w base t ty e i z size bytes ht hi hz hsize hby hzs hsz _ n xs hown a m c news hl hnews h1 h63 hbytes hbase
      subst hsize
      have hbd : ∀ j, j < news.length → n * i.size + j < cur.size := fun j hj => by
        rw [hcs]
        have : (n + m) * i.size ≤ cap * i.size := Nat.mul_le_mul_right _ hroom
        rw [Nat.add_mul] at this
        omega
      have r4 := run_append_room_cells (P := P) w t ty e i ht hi g 0 n cap a m c news hl hnews h1 hroom
        (fun j hj => by rw [Nat.zero_add, cell_of_row _ _ _ _ _ (0, 0) hg]; simp [hbd j hj])
        (fun j hj => frozen_of_row _ _ _ _ _ hg)
      rw [r1] at r4
      injection r4 with e1 e2
      refine ⟨v', w', r1, r2, r3, fun k hk => .inl ?_⟩
      rw [e1] at hk
      exact hk
    · obtain ⟨v', w', r1, r2, r3⟩ := run_append_arg_grows (P := P) w t ty e i z size bytes ht hi hz hsize hby hzs hsz ⟨g, 0, none⟩ n cap xs hown.1 (fun j u hj => hown.cells (g := g) (by simp [Value.ownBlock]) j u hj) a m c news hl hnews (by omega) h63 hbytes
      exact ⟨v', w', r1, own_lower r2 hbase, ⟨r3.os, r3.tape, r3.output, r3.size, fun k hk _ => r3.block k hk (by simp)⟩, fun k hk => .inr (own_block r2 k hk).1⟩

theorem three_set {w : World} {g : Nat} {x y z : Value} {t : TypeId} (h : w.heap[g]? = some (.cells #[x, y, z] t (0, 0))) (a b c : Value) :
    (((w.setCell ⟨g, 0, none⟩ a).setCell ⟨g, 1, none⟩ b).setCell ⟨g, 2, none⟩ c).heap[g]? = some (.cells #[a, b, c] t (0, 0)) :=
  heap_setCell_same _ g 2 _ t c (heap_setCell_same _ g 1 _ t b (heap_setCell_same w g 0 _ t a h))
theorem three_far (w : World) {g k : Nat} (a b c : Value) (h : k ≠ g) : (((w.setCell ⟨g, 0, none⟩ a).setCell ⟨g, 1, none⟩ b).setCell ⟨g, 2, none⟩ c).heap[k]? = w.heap[k]? := by
  rw [Below.heap_setCell _ _ _ _ h, Below.heap_setCell _ _ _ _ h, Below.heap_setCell _ _ _ _ h]
theorem three_size (w : World) (g : Nat) (a b c : Value) : (((w.setCell ⟨g, 0, none⟩ a).setCell ⟨g, 1, none⟩ b).setCell ⟨g, 2, none⟩ c).heap.size = w.heap.size := by simp [World.setCell]
theorem three_grown {w0 w : World} {g : Nat} {row : Option Nat} (h : w0.grownBy w row) (hg : w0.heap.size ≤ g) (a b c : Value) : w0.grownBy (((w.setCell ⟨g, 0, none⟩ a).setCell ⟨g, 1, none⟩ b).setCell ⟨g, 2, none⟩ c) row :=
  ⟨h.os, h.tape, h.output, by rw [three_size]; exact h.size, fun k hk hne => by rw [three_far _ _ _ _ (by omega)]; exact h.block k hk hne⟩

def Room (w : World) (rb : Nat) (r : Int) : Prop := w.heap[rb]? = some (.cells #[.int .i64 r] 3 (0, 0))

theorem own_lt {w : World} {base e size : Nat} {v : Value} {n : Nat} {cs : List Value} (h : w.ownsRow base e size v n cs) {g : Nat} (hg : v.ownBlock = some g) : g < w.heap.size := by
  obtain ⟨-, cur, h2⟩ := own_block h g hg
  exact lt_of_block h2

theorem of_own_cap {w : World} {base e size : Nat} {v : Value} {n : Nat} {cs : List Value} (h : w.ownsRow base e size v n cs) :
    ∃ A c, v = .slice A n c ∧ n ≤ c ∧ c ≤ 9223372036854775807 ∧ (0 < n → ∃ g, A = some ⟨g, 0, none⟩ ∧ base ≤ g ∧ g < w.heap.size) := by
  rcases h.2 with ⟨rfl, rfl⟩ | ⟨g, cap, cur, rfl, hb, hg, hnc, hcm, -⟩
  · exact ⟨none, 0, rfl, Nat.le_refl _, by omega, fun h => by omega⟩
  · exact ⟨_, cap, rfl, hnc, by unfold maxLen at hcm; omega, fun _ => ⟨g, rfl, hb, lt_of_block hg⟩⟩

mutual
def Small : Tree → Prop
  | .node _ d ks => d.length ≤ 4000 ∧ Smalls ks
def Smalls : List Tree → Prop
  | [] => True
  | x :: r => Small x ∧ Smalls r
end
theorem Smalls.snoc : ∀ {l : List Tree} {x : Tree}, Smalls (l ++ [x]) ↔ Smalls l ∧ Small x
  | [], x => by simp [Smalls]
  | y :: r, x => by simp [Smalls, Smalls.snoc (l := r), and_assoc]

/-- Where the copy stands: its record, its row of others so far, the room that is left. -/
structure AmSt (w0 w wr : World) (t : Int) (dv : Value) (rb : Nat) (room0 : Int) (r : Int) (k : Nat) (v : Value) (hs : List (Value × Value × Value)) (ks' : List Tree) : Prop where
  ob : wr.heap[w.heap.size + 2]? = some (.cells #[.int .i64 t, dv, v] 60 (0, 0))
  own : wr.ownsRow (w.heap.size + 3) 60 3 v k (fl triH hs)
  row : XRow w0 wr (fun g => w.heap.size + 2 < g ∧ g < wr.heap.size ∧ v.ownBlock ≠ some g) hs ks'
  len : ks'.length = k
  small : Smalls ks'
  room : Room wr rb r
  le : r ≤ 4000
  lt : r < room0
  cnt : (k : Int) ≤ 4000 - r
  ge : -9223372036854775808 ≤ r
  grown : w.grownBy wr (some rb)
  res : wr.heap[w.heap.size + 1]? = some (.cells #[.int .i64 0, .slice none 0 0, .slice none 0 0] 60 (0, 0))

/-- The world has grown; the room's cell alone has changed. -/
theorem AmSt.later {w0 w wr W : World} {t : Int} {dv : Value} {rb : Nat} {room0 r r' : Int} {k : Nat} {v : Value} {hs : List (Value × Value × Value)} {ks' : List Tree} (h : AmSt w0 w wr t dv rb room0 r k v hs ks') (hrb : rb < w.heap.size) (hg : wr.grownBy W (some rb)) (hr : Room W rb r') (h1 : r' ≤ r) (h2 : -9223372036854775808 ≤ r') :
    AmSt w0 w W t dv rb room0 r' k v hs ks' := by
  have z := h.grown.size
  have lob := lt_of_block h.ob
  refine ⟨(hg.block _ lob (by simp; omega)).trans h.ob, own_kept h.own hg (fun g e => ⟨#[.int .i64 r], 3, (0, 0), by injection e with e; subst e; exact h.room, by decide⟩), h.row.keep fun g hgF => ⟨hg.block g hgF.2.1 (by simp; omega), hgF.1, Nat.lt_of_lt_of_le hgF.2.1 hg.size, hgF.2.2⟩, h.len, h.small, hr, by have := h.le; omega, by have := h.lt; omega, by have := h.cnt; omega, h2, grown_trans h.grown hg, (hg.block _ (by omega) (by simp; omega)).trans h.res⟩

/-- One more behind the others. -/
theorem AmSt.next {w0 w w6 w7 : World} {t : Int} {dv : Value} {rb : Nat} {room0 r : Int} {k : Nat} {v : Value} {hs : List (Value × Value × Value)} {ks' : List Tree} (h : AmSt w0 w w7 t dv rb room0 r k v hs ks') (hrb : rb < w.heap.size) {p : Value × Value × Value} {x : Tree} (hsm : Small x)
    (hx : XAt w0 w7 (fun g => w6.heap.size ≤ g ∧ g < w7.heap.size) p.1 p.2.1 p.2.2 x) (hv : ∀ g, v.ownBlock = some g → g < w6.heap.size) (h6 : w.heap.size + 2 < w6.heap.size) (hk : (k : Int) + 1 ≤ 4000 - r) (hk4 : k ≤ 4000)
    (hone : ∀ u ∈ triH p, u.oneCell' = true) (g0 : Nat) (hc : ∀ j u, (triH p)[j]? = some u → w7.cell? ((⟨g0, 0, none⟩ : Addr).add j) = some u) :
    ∃ A' c' w8, (Builtin.append_ #[58, 58] 58 #[v, .slice (some ⟨g0, 0, none⟩) 1 1]).run Try.prog w7 = .ok (.slice A' (k + 1) c') w8 ∧ w8.heap[w.heap.size + 2]? = some (.cells #[.int .i64 t, dv, v] 60 (0, 0)) ∧
      (∀ (g : Nat) (cur : Array Value) (ty : TypeId) (y : Nat × Nat), w7.heap[g]? = some (.cells cur ty y) → ty ≠ 60 → w8.heap[g]? = some (.cells cur ty y)) ∧
      AmSt w0 w (w8.setCell ⟨w.heap.size + 2, 2, none⟩ (.slice A' (k + 1) c')) t dv rb room0 r (k + 1) (.slice A' (k + 1) c') (hs ++ [p]) (ks' ++ [x]) := by
  obtain ⟨i0, hi, hz0, hz1, hz2⟩ := info_parts Try.info60
  have z := h.grown.size
  have lob := lt_of_block h.ob
  obtain ⟨v', w8, hr, ho, hg, hwh⟩ := run_append_where (P := Try.prog) w7 (w.heap.size + 3) 58 58 60 i0 (.agg #[.int .i64 0, .slice none 0 0, .slice none 0 0]) 3 56 Try.underlying58 hi hz0 hz1 hz2 rfl (by decide) v k (fl triH hs) h.own ⟨g0, 0, none⟩ 1 1 (triH p) rfl hc hone (by unfold maxLen; omega) (by omega) (by omega)
  obtain ⟨A', c', rfl, -, -, -⟩ := Rd.of_own ho
  have hvb : ∀ g, v.ownBlock = some g → w.heap.size + 3 ≤ g ∧ ∃ cur, w7.heap[g]? = some (.cells cur 60 (0, 0)) := fun g e => own_block h.own g e
  have hob8 : w8.heap[w.heap.size + 2]? = some (.cells #[.int .i64 t, dv, v] 60 (0, 0)) := (hg.block _ lob (fun e => by have := (hvb _ e.symm).1; omega)).trans h.ob
  have keep : ∀ g, g < w7.heap.size → v.ownBlock ≠ some g → g ≠ w.heap.size + 2 → (w8.setCell ⟨w.heap.size + 2, 2, none⟩ (.slice A' (k + 1) c')).heap[g]? = w7.heap[g]? := fun g h1 h2 h3 => by
    rw [Below.heap_setCell _ _ _ _ (by simpa using h3)]; exact hg.block g h1 (fun e => h2 e.symm)
  have hsz8 := hg.size
  have hszf : (w8.setCell ⟨w.heap.size + 2, 2, none⟩ (.slice A' (k + 1) c')).heap.size = w8.heap.size := by simp [World.setCell]
  refine ⟨A', c', w8, hr, hob8, fun g cur ty y hgc hty => ?_, ?_⟩
  · rw [hg.block g (lt_of_block hgc) (fun e => ?_)]
    · exact hgc
    · obtain ⟨-, cur2, q2⟩ := hvb g e.symm
      rw [hgc] at q2
      injection q2 with q2
      injection q2 with _ q2
      exact hty q2
  · have new : ∀ g, g < w7.heap.size → v.ownBlock ≠ some g → (Value.slice A' (k + 1) c').ownBlock ≠ some g := fun g h1 h2 e => by
      rcases hwh g e with h3 | h3
      · exact h2 h3
      · omega
    refine ⟨heap_setCell_same w8 _ 2 _ _ _ hob8, ?_, ?_, by rw [List.length_append, h.len, List.length_singleton], Smalls.snoc.2 ⟨h.small, hsm⟩, ?_, h.le, h.lt, by omega, h.ge, ?_, ?_⟩
    · rw [fl_snoc]
      exact ownsRow_setCell_other ho (fun e => by have := (ho.lt _ e).1; simp at this) _
    · refine XRow.snoc (h.row.keep fun g hgF => ⟨keep g hgF.2.1 hgF.2.2 (by omega), hgF.1, by rw [hszf]; omega, new g hgF.2.1 hgF.2.2⟩) (XAt.keep (fun g hgF => ?_) _ _ _ _ hx)
      have hvg : v.ownBlock ≠ some g := fun e => by have := hv g e; omega
      exact ⟨keep g hgF.2 hvg (by omega), by omega, by rw [hszf]; omega, new g hgF.2 hvg⟩
    · exact (keep rb (by omega) (fun e => by have := (hvb _ e).1; omega) (by omega)).trans h.room
    · refine ⟨hg.os.trans h.grown.os, hg.tape.trans h.grown.tape, hg.output.trans h.grown.output, by rw [hszf]; omega, fun g hgl hne => ?_⟩
      exact (keep g (by omega) (fun e => by have := (hvb _ e).1; omega) (by omega)).trans (h.grown.block g hgl hne)
    · exact (keep _ (by omega) (fun e => by have := (hvb _ e).1; omega) (by omega)).trans h.res

def AmongPost (w0 w : World) (T : Tree) (rb : Nat) (room0 : Int) (e : Ending) (w' : World) : Prop :=
  ∃ a b c x r, e = .returned (.agg #[a, b, c]) ∧ XAt w0 w' (fun g => w.heap.size ≤ g ∧ g < w'.heap.size) a b c x ∧ (Good x → x = T) ∧ Small x ∧ r < room0 ∧ -9223372036854775808 ≤ r ∧ Room w' rb r ∧ w.grownBy w' (some rb)

def AmongCalls (w0 : World) (T : Tree) : Prop := ∀ (w : World) (a b c : Value) (deep rb : Nat) (room : Int), XAt w0 w0 (fun _ => True) a b c T → Below w0.heap.size w0 w → w0.heap.size ≤ rb → Room w rb room → deep ≤ 8 → 0 ≤ room → room ≤ 4000 →
  Calls Try.prog 57 #[.agg #[a, b, c], .int .i64 deep, .pointer (some ⟨rb, 0, none⟩)] w fun e w' => AmongPost w0 w T rb room e w'

set_option maxHeartbeats 4000000 in
set_option maxRecDepth 100000 in
theorem among_step (w0 : World) (t : Int) (d : List Int) (ks : List Tree) (ih : ∀ x ∈ ks, AmongCalls w0 x) : AmongCalls w0 (.node t d ks) := by
  intro w a b c deep rb room hT hb hrb hroom hdeep hr0 hr1
  obtain ⟨A, k1, A', k2, rfl, rfl, rfl, hdb, hdl, hk2, hk3, hbytes, hks⟩ := XAt.shape hT
  have HIH := Lib.hid ih
  have HB := Lib.hid hb
  have HROOM := Lib.hid hroom
  have HBY := Lib.hid hbytes
  have HKS := Lib.hid hks
  have HDB := Lib.hid hdb
  have lrb := lt_of_block hroom
  have hbs := hb.size
  clear ih hb hbytes hks hdb hT
  obtain ⟨r, hr⟩ : ∃ r, r = room - 1 - (d.length : Int) := ⟨_, rfl⟩
  have e1 : wrap64 (room - wrap64 (1 + (d.length : Int))) = r := by
    rw [hr]; unfold wrap64; omega
  have hr4 : r ≤ 4000 := by omega
  have hr3 : r < room := by omega
  have hr5 : -9223372036854775808 ≤ r := by omega
  have hd4 : 0 ≤ r → d.length ≤ 4000 := fun h => by omega
  have HD4 := Lib.hid hd4
  have E1 := Lib.hid e1
  clear e1 hr hd4
  go_enter Try.func57, Try.ntmps57
  obtain ⟨W1, hW1⟩ : ∃ W1, W1 = (w.alloc (.cells #[.int .i64 t, .slice A d.length k1, .slice A' ks.length k2] 56)).alloc (.cells #[.int .i64 0, .slice none 0 0, .slice none 0 0] 60) := ⟨_, rfl⟩
  have D1 : Below w.heap.size w W1 := by rw [hW1]; exact below2 w _ _
  have q3 : Three W1 w.heap.size (.int .i64 t) (.slice A d.length k1) (.slice A' ks.length k2) := by
    rw [hW1]; exact Three.below (three_new w _ _ _ _) ((Below.refl _ _).alloc (Nat.le_refl _) _)
  have q60 : W1.heap[w.heap.size + 1]? = some (.cells #[.int .i64 0, .slice none 0 0, .slice none 0 0] 60 (0, 0)) := by
    rw [hW1]; simpa using heap_alloc_new (w.alloc (.cells #[.int .i64 t, .slice A d.length k1, .slice A' ks.length k2] 56)) (.cells #[.int .i64 0, .slice none 0 0, .slice none 0 0] 60)
  have r1 : Room W1 rb room := (D1.block rb lrb).trans hroom
  have cr := cell_of_one r1
  have fr := free_of_one r1
  obtain ⟨q30, q31, q32⟩ := q3
  have hsz1 : W1.heap.size = w.heap.size + 2 := by rw [hW1]; simp
  go_wp2_with fail
  rw [← hW1]
  clear hW1 hroom
  go_region
  rw [E1.out]
  obtain ⟨W2, hW2⟩ : ∃ W2, W2 = (W1.setCell ⟨rb, 0, none⟩ (.int .i64 r)).drew := ⟨_, rfl⟩
  rw [← hW2]
  have r2 : Room W2 rb r := by rw [hW2]; exact one_setCell r1
  have keep2 : ∀ k, k ≠ rb → W2.heap[k]? = W1.heap[k]? := fun k hk => by rw [hW2]; exact Below.heap_setCell W1 _ _ _ hk
  have hsz2 : W2.heap.size = w.heap.size + 2 := by rw [hW2]; simp [World.setCell, hsz1]
  have hg2 : w.grownBy W2 (some rb) := by
    rw [hW2]
    exact ⟨D1.os, D1.tape, D1.output, by simp [World.setCell, hsz1], fun k hk hne => by
      have h := Below.heap_setCell W1 ⟨rb, 0, none⟩ (.int .i64 r) k (fun e => hne (by simp at e; rw [e]))
      exact h.trans (D1.block k hk)⟩
  have q60b : W2.heap[w.heap.size + 1]? = some (.cells #[.int .i64 0, .slice none 0 0, .slice none 0 0] 60 (0, 0)) := (keep2 _ (by omega)).trans q60
  have cq : ∀ j, W2.cell? ⟨w.heap.size, j, none⟩ = W1.cell? ⟨w.heap.size, j, none⟩ := fun j => World.cell?_of_block (keep2 _ (by simp; omega))
  rw [← cq] at q30 q31 q32
  have cr2 := cell_of_one r2
  have fr2 := free_of_one r2
  have R2 := Lib.hid r2
  have HG2 := Lib.hid hg2
  have Q60 := Lib.hid q60b
  have f0 := frozen_of_row _ _ 0 _ _ q60b
  have f1 := frozen_of_row _ _ 1 _ _ q60b
  have f2 := frozen_of_row _ _ 2 _ _ q60b
  have p0 : W2.cell? ⟨w.heap.size + 1, 0, none⟩ = some (.int .i64 0) := (cell_of_row _ _ 0 _ _ (0, 0) q60b).trans rfl
  have p1 : W2.cell? ⟨w.heap.size + 1, 1, none⟩ = some (.slice none 0 0) := (cell_of_row _ _ 1 _ _ (0, 0) q60b).trans rfl
  have p2 : W2.cell? ⟨w.heap.size + 1, 2, none⟩ = some (.slice none 0 0) := (cell_of_row _ _ 2 _ _ (0, 0) q60b).trans rfl
  clear hW2 r2 hg2 q60b q60 D1 keep2 cq r1 cr fr hsz1
  have fin : ∀ (W : World) (r : Int), W.heap[w.heap.size + 1]? = some (.cells #[.int .i64 0, .slice none 0 0, .slice none 0 0] 60 (0, 0)) → Room W rb r → r < room → -9223372036854775808 ≤ r → w.grownBy W (some rb) →
      AmongPost w0 w (.node t d ks) rb room (.returned (.agg #[.int .i64 (-1), .slice none 0 0, .slice none 0 0])) (((W.setCell ⟨w.heap.size + 1, 0, none⟩ (.int .i64 (-1))).setCell ⟨w.heap.size + 1, 1, none⟩ (.slice none 0 0)).setCell ⟨w.heap.size + 1, 2, none⟩ (.slice none 0 0)) := fun W r h1 h2 h3 h4 h5 =>
    ⟨_, _, _, .node (-1) [] [], r, rfl, by simp only [XAt]; exact ⟨trivial, (by intro y hy; cases hy), by simp, ⟨none, 0, rfl, Nat.le_refl _, Rd.nil _ _, fun _ => rfl⟩, none, 0, rfl, Nat.le_refl _, by omega, fun h => absurd rfl h⟩,
      fun hg => by simp only [Good] at hg; omega, by simp [Small, Smalls], h3, h4, (three_far _ _ _ _ (by omega)).trans h2, three_grown h5 (by omega) _ _ _⟩
  have FIN := Lib.hid fin
  clear fin
  by_cases hneg : r < 0
  · have hneg' : decide (r < 0) = true := by simpa using hneg
    go_wp2_with fail
    have fq := three_set Q60.out (.int .i64 (-1)) (.slice none 0 0) (.slice none 0 0)
    have fp := FIN.out W2 r Q60.out R2.out hr3 hr5 HG2.out
    obtain ⟨W3, hW3⟩ : ∃ W3, W3 = ((W2.setCell ⟨w.heap.size + 1, 0, none⟩ (.int .i64 (-1))).setCell ⟨w.heap.size + 1, 1, none⟩ (.slice none 0 0)).setCell ⟨w.heap.size + 1, 2, none⟩ (.slice none 0 0) := ⟨_, rfl⟩
    rw [← hW3] at fq fp
    rw [← hW3]
    have s0 : W3.cell? ⟨w.heap.size + 1, 0, none⟩ = some (.int .i64 (-1)) := (cell_of_row _ _ 0 _ _ (0, 0) fq).trans rfl
    have s1 : W3.cell? ⟨w.heap.size + 1, 1, none⟩ = some (.slice none 0 0) := (cell_of_row _ _ 1 _ _ (0, 0) fq).trans rfl
    have s2 : W3.cell? ⟨w.heap.size + 1, 2, none⟩ = some (.slice none 0 0) := (cell_of_row _ _ 2 _ _ (0, 0) fq).trans rfl
    exact bodyPost_ret (v := .agg #[.int .i64 (-1), .slice none 0 0, .slice none 0 0]) (by simp [results, Try.results57, go_sem, s0, s1, s2]) rfl fp
  · have hneg' : decide (r < 0) = false := by simpa using hneg
    have hdsm := HD4.out (by omega)
    by_cases hd0 : deep = 0
    · subst hd0
      go_wp2_with fail
      have fq := three_set Q60.out (.int .i64 (-1)) (.slice none 0 0) (.slice none 0 0)
      have fp := FIN.out W2 r Q60.out R2.out hr3 hr5 HG2.out
      obtain ⟨W3, hW3⟩ : ∃ W3, W3 = ((W2.setCell ⟨w.heap.size + 1, 0, none⟩ (.int .i64 (-1))).setCell ⟨w.heap.size + 1, 1, none⟩ (.slice none 0 0)).setCell ⟨w.heap.size + 1, 2, none⟩ (.slice none 0 0) := ⟨_, rfl⟩
      rw [← hW3] at fq fp
      rw [← hW3]
      have s0 : W3.cell? ⟨w.heap.size + 1, 0, none⟩ = some (.int .i64 (-1)) := (cell_of_row _ _ 0 _ _ (0, 0) fq).trans rfl
      have s1 : W3.cell? ⟨w.heap.size + 1, 1, none⟩ = some (.slice none 0 0) := (cell_of_row _ _ 1 _ _ (0, 0) fq).trans rfl
      have s2 : W3.cell? ⟨w.heap.size + 1, 2, none⟩ = some (.slice none 0 0) := (cell_of_row _ _ 2 _ _ (0, 0) fq).trans rfl
      exact bodyPost_ret (v := .agg #[.int .i64 (-1), .slice none 0 0, .slice none 0 0]) (by simp [results, Try.results57, go_sem, s0, s1, s2]) rfl fp
    · obtain ⟨dp, rfl⟩ : ∃ dp, deep = dp + 1 := ⟨deep - 1, by omega⟩
      have hd0' : ((((dp + 1 : Nat) : Int)) == 0) = false := by rw [beq_eq_false_iff_ne]; omega
      go_wp2_with fail
      obtain ⟨W4, hW4⟩ : ∃ W4, W4 = W2.alloc (.cells #[.int .i64 t, .slice A d.length k1, .slice none 0 0] 60) := ⟨_, rfl⟩
      have D4 : Below W2.heap.size W2 W4 := by rw [hW4]; exact (Below.refl _ _).alloc (Nat.le_refl _) _
      have ob4 : W4.heap[w.heap.size + 2]? = some (.cells #[.int .i64 t, .slice A d.length k1, .slice none 0 0] 60 (0, 0)) := by
        rw [hW4, ← hsz2]; exact heap_alloc_new W2 _
      rw [← hW4]
      have HG4 := Lib.hid (grown_trans HG2.out (below_row D4 (some rb)))
      have R4 := Lib.hid ((D4.block rb (by omega)).trans R2.out)
      have Q4 := Lib.hid ((D4.block (w.heap.size + 1) (by omega)).trans Q60.out)
      have OB4 := Lib.hid ob4
      clear hW4 D4 ob4
      go_loopw [36] (fun i wr => ∃ k v hs ks' r, k ≤ ks.length ∧ i = .int .i64 (k : Nat) ∧ AmSt w0 w wr t (.slice A d.length k1) rb room r k v hs ks' ∧ (Goods ks' → ks' = ks.take k)) (fun i _ => ks.length - (intOf i).toNat)
      case atStart => exact ⟨0, .slice none 0 0, [], [], r, Nat.zero_le _, rfl, ⟨OB4.out, World.ownsRow_nil _ _ _ _, by simp [XRow], rfl, by simp [Smalls], R4.out, hr4, hr3, by simp; omega, hr5, HG4.out, Q4.out⟩, fun _ => by simp⟩
      case round =>
        obtain ⟨k, v, hs, ks', r, hk, rfl, st, hgd⟩ := hrel
        clear hr3 hr4 hr5 cr2 fr2 R2 p0 p1 p2 f0 f1 f2 q30 q31 q32 E1
        have hsz := st.grown.size
        have lob := lt_of_block st.ob
        obtain ⟨Av, cv, rfl, hcv, hcv2, hav⟩ := of_own_cap st.own
        have crm : wr.cell? ⟨rb, 0, none⟩ = some (.int .i64 r) := cell_of_one st.room
        have lrbr := lt_of_block st.room
        have hr4 := st.le
        have hr3 := st.lt
        have hcnt := st.cnt
        have hr5 := st.ge
        have hkl := st.len
        have HGD := Lib.hid hgd
        have HST := Lib.hid st
        have HAV := Lib.hid hav
        clear hgd st hav
        by_cases hlt : k < ks.length
        · obtain ⟨bb, o, rfl, -, hxs⟩ := HKS.out (by rintro rfl; simp at hlt)
          obtain ⟨ka, kb, kc, e0, e1, e2, hkid⟩ := XsAt.get ks bb o k hlt hxs
          have B0 : Below w0.heap.size w0 wr := HB.out.grown HST.out.grown hbs (fun q hq => by injection hq with hq; omega)
          have f0' := cells_one B0 e0
          have f1' := cells_one B0 e1
          have f2' := cells_one B0 e2
          obtain ⟨T1, hT1⟩ : ∃ T1, T1 = ks[k] := ⟨_, rfl⟩
          have hin : T1 ∈ ks := by rw [hT1]; exact List.getElem_mem hlt
          rw [← hT1] at hkid
          have hsnoc : ks.take k ++ [T1] = ks.take (k + 1) := by rw [hT1]; exact (List.take_succ_eq_append_getElem hlt).symm
          have KIH := Lib.hid (HIH.out T1 hin)
          have KID := Lib.hid hkid
          have HSN := Lib.hid hsnoc
          have HB0 := Lib.hid B0
          obtain ⟨t', d', ks''⟩ := T1
          obtain ⟨xA, xk, yA, yk, rfl, rfl, rfl, -⟩ := XAt.shape hkid
          have hne : 0 < ks.length := by omega
          have hszw : w0.heap.size ≤ wr.heap.size := by omega
          obtain ⟨W5, hW5⟩ : ∃ W5, W5 = wr.alloc (.cells #[.int .i64 t', .slice xA d'.length xk, .slice yA ks''.length yk] 56) := ⟨_, rfl⟩
          have D5 : Below wr.heap.size wr W5 := by rw [hW5]; exact (Below.refl _ wr).alloc (Nat.le_refl _) _
          have g5 : W5.heap[wr.heap.size]? = some (.cells #[.int .i64 t', .slice xA d'.length xk, .slice yA ks''.length yk] 56 (0, 0)) := by rw [hW5]; exact heap_alloc_new wr _
          have HW5 := Lib.hid hW5
          have HD5 := Lib.hid D5
          have G5 := Lib.hid g5
          have hszw5 := D5.size
          have lg5 := lt_of_block g5
          clear hxs e0 e1 e2 hkid hT1 hin hsnoc B0 D5 g5
          by_cases hneg2 : r < 0
          · have hneg2' : decide (r < 0) = true := by simpa using hneg2
            have st5 := HST.out.later lrb (below_row HD5.out (some rb)) ((HD5.out.block rb lrbr).trans HST.out.room) (Int.le_refl _) hr5
            have f0 := frozen_of_row _ _ 0 _ _ st5.res
            have f1 := frozen_of_row _ _ 1 _ _ st5.res
            have f2 := frozen_of_row _ _ 2 _ _ st5.res
            have p0 : W5.cell? ⟨w.heap.size + 1, 0, none⟩ = some (.int .i64 0) := (cell_of_row _ _ 0 _ _ (0, 0) st5.res).trans rfl
            have p1 : W5.cell? ⟨w.heap.size + 1, 1, none⟩ = some (.slice none 0 0) := (cell_of_row _ _ 1 _ _ (0, 0) st5.res).trans rfl
            have p2 : W5.cell? ⟨w.heap.size + 1, 2, none⟩ = some (.slice none 0 0) := (cell_of_row _ _ 2 _ _ (0, 0) st5.res).trans rfl
            have rq := st5.res
            have rr := st5.room
            have rg := st5.grown
            rw [hW5] at f0 f1 f2 p0 p1 p2 rq rr rg
            have RQ := Lib.hid rq
            have RR := Lib.hid rr
            have RG := Lib.hid rg
            clear st5 hW5 rq rr rg
            go_wp2_with fail
            have fq := three_set RQ.out (.int .i64 (-1)) (.slice none 0 0) (.slice none 0 0)
            have fp := FIN.out (wr.alloc (.cells #[.int .i64 t', .slice xA d'.length xk, .slice yA ks''.length yk] 56)) r RQ.out RR.out hr3 hr5 RG.out
            obtain ⟨W3, hW3⟩ : ∃ W3, W3 = (((wr.alloc (.cells #[.int .i64 t', .slice xA d'.length xk, .slice yA ks''.length yk] 56)).setCell ⟨w.heap.size + 1, 0, none⟩ (.int .i64 (-1))).setCell ⟨w.heap.size + 1, 1, none⟩ (.slice none 0 0)).setCell ⟨w.heap.size + 1, 2, none⟩ (.slice none 0 0) := ⟨_, rfl⟩
            rw [← hW3] at fq fp
            rw [← hW3]
            have s0 : W3.cell? ⟨w.heap.size + 1, 0, none⟩ = some (.int .i64 (-1)) := (cell_of_row _ _ 0 _ _ (0, 0) fq).trans rfl
            have s1 : W3.cell? ⟨w.heap.size + 1, 1, none⟩ = some (.slice none 0 0) := (cell_of_row _ _ 1 _ _ (0, 0) fq).trans rfl
            have s2 : W3.cell? ⟨w.heap.size + 1, 2, none⟩ = some (.slice none 0 0) := (cell_of_row _ _ 2 _ _ (0, 0) fq).trans rfl
            exact bodyPost_ret (v := .agg #[.int .i64 (-1), .slice none 0 0, .slice none 0 0]) (by simp [results, Try.results57, go_sem, s0, s1, s2]) rfl fp
          · have hneg2' : decide (r < 0) = false := by simpa using hneg2
            clear hW5
            go_wp2_with fail
            rw [← HW5.out]
            have cob5 : W5.cell? ⟨w.heap.size + 2, 2, none⟩ = some (.slice Av k cv) := (cell_of_row _ _ 2 _ _ (0, 0) ((HD5.out.block _ lob).trans HST.out.ob)).trans rfl
            have wdp : IntKind.i64.wrap (dp : Int) = (dp : Int) := IntWalk.i64_in _ (by omega)
            have KS : Hid (∀ W : World, W.heap[wr.heap.size]? = some (.cells #[.int .i64 t', .slice xA d'.length xk, .slice yA ks''.length yk] 56 (0, 0)) → W.cell? ⟨wr.heap.size, 0, none⟩ = some (.int .i64 t') ∧ W.cell? ⟨wr.heap.size, 1, none⟩ = some (.slice xA d'.length xk) ∧ W.cell? ⟨wr.heap.size, 2, none⟩ = some (.slice yA ks''.length yk)) := fun W h =>
              ⟨(cell_of_row _ _ 0 _ _ (0, 0) h).trans rfl, (cell_of_row _ _ 1 _ _ (0, 0) h).trans rfl, (cell_of_row _ _ 2 _ _ (0, 0) h).trans rfl⟩
            refine wp_region_held_drew (S := fun w' => w'.cell? ⟨wr.heap.size, 0, none⟩ = some (.int .i64 t') ∧ w'.cell? ⟨wr.heap.size, 1, none⟩ = some (.slice xA d'.length xk) ∧ w'.cell? ⟨wr.heap.size, 2, none⟩ = some (.slice yA ks''.length yk)) (by kernel_rfl) (KS.out _ G5.out) (fun hHeld => ?_)
            refine wpAnyH_take (i := 0) (oi := ?o0) (v := ?v0) ?h0 (by kernel_rfl) (by kernel_rfl) (by kernel_rfl) ?q0 (Or.inl ⟨?w0, ?y0⟩) (by assumption) ?r0
            case h0 => (simp only [List.getElem?_toArray, List.getElem?_cons_succ, List.getElem?_cons_zero] <;> rfl)
            case q0 => exact fun _ _ _ h => h
            case w0 => rfl
            case y0 => (intro w hSw; (try dsimp only at hSw); go_simp; (try with_reducible rfl))
            try simp only [Act.put, List.setIfInBounds_toArray, List.set_cons_zero, List.set_cons_succ]
            refine wpAnyH_take (i := 2) (oi := ?o2) (v := ?v2) ?h2 (by kernel_rfl) (by kernel_rfl) (by kernel_rfl) ?q2 (Or.inl ⟨?w2, ?y2⟩) (by assumption) ?r2
            case h2 => (simp only [List.getElem?_toArray, List.getElem?_cons_succ, List.getElem?_cons_zero] <;> rfl)
            case q2 => exact fun _ _ _ h => h
            case w2 => rfl
            case y2 => (intro w hSw; (try dsimp only at hSw); go_simp; (try with_reducible rfl))
            try simp only [Act.put, List.setIfInBounds_toArray, List.set_cons_zero, List.set_cons_succ]
            refine wpAnyH_take (i := 3) (oi := ?o3) (v := ?v3) ?h3 (by kernel_rfl) (by kernel_rfl) (by kernel_rfl) ?q3 (Or.inl ⟨?w3, ?y3⟩) (by assumption) ?r3
            case h3 => (simp only [List.getElem?_toArray, List.getElem?_cons_succ, List.getElem?_cons_zero] <;> rfl)
            case q3 => exact fun _ _ _ h => h
            case w3 => rfl
            case y3 => (intro w hSw; (try dsimp only at hSw); go_simp; (try with_reducible rfl))
            try simp only [Act.put, List.setIfInBounds_toArray, List.set_cons_zero, List.set_cons_succ]
            refine wpAnyH_take (i := 4) (oi := ?o4) (v := ?v4) ?h4 (by kernel_rfl) (by kernel_rfl) (by kernel_rfl) ?q4 (Or.inl ⟨?w4, ?y4⟩) (by assumption) ?r4
            case h4 => (simp only [List.getElem?_toArray, List.getElem?_cons_succ, List.getElem?_cons_zero] <;> rfl)
            case q4 => exact fun _ _ _ h => h
            case w4 => rfl
            case y4 => (intro w hSw; (try dsimp only at hSw); go_simp; (try with_reducible rfl))
            try simp only [Act.put, List.setIfInBounds_toArray, List.set_cons_zero, List.set_cons_succ]
            refine wpAnyH_take (i := 5) (oi := ?o5) (v := ?v5) ?h5 (by kernel_rfl) (by kernel_rfl) (by kernel_rfl) ?q5 (Or.inl ⟨?w5, ?y5⟩) (by assumption) ?r5
            case h5 => (simp only [List.getElem?_toArray, List.getElem?_cons_succ, List.getElem?_cons_zero] <;> rfl)
            case q5 => exact fun _ _ _ h => h
            case w5 => rfl
            case y5 => (intro w hSw; (try dsimp only at hSw); go_simp; (try with_reducible rfl))
            try simp only [Act.put, List.setIfInBounds_toArray, List.set_cons_zero, List.set_cons_succ]
            refine wpAnyH_ready (rs := [1, 6]) (by kernel_rfl) (by simp) ?_
            refine AllReadyH.cons (o := ?o1) ?h1 (fun K hK => ?br1) (AllReadyH.cons (o := ?o6) ?h6 (fun K hK => ?br6) (AllReadyH.nil))
            case h1 => (simp only [List.getElem?_toArray, List.getElem?_cons_succ, List.getElem?_cons_zero] <;> rfl)
            case h6 => (simp only [List.getElem?_toArray, List.getElem?_cons_succ, List.getElem?_cons_zero] <;> rfl)
            case br1 =>
              go_simp
              refine hK.out _ _ ?s1A (fun hHeld => ?_)
              case s1A => exact KS.out _ G5.out
              clear hK K
              try simp only [Act.put, List.setIfInBounds_toArray, List.set_cons_zero, List.set_cons_succ]
              refine wpAnyH_ready (rs := [6]) (by kernel_rfl) (by simp) ?_
              refine AllReadyH.cons (o := ?o6A) ?h6A (fun K hK => ?_) AllReadyH.nil
              case h6A => (simp only [List.getElem?_toArray, List.getElem?_cons_succ, List.getElem?_cons_zero] <;> rfl)
              go_simp
              refine (KIH.out _ _ _ _ dp rb r KID.out (HB0.out.trans (HD5.out.drew.mono hszw)) hrb ((HD5.out.block rb lrbr).trans HST.out.room) (by omega) (by omega) (by omega)).mono ?_
              rintro e w6 ⟨a6, b6, c6, x6, r6, rfl, hx6, hgx6, hsm6, h61, h62, hroom6, hg6⟩
              obtain ⟨t6, d6, ks6⟩ := x6
              obtain ⟨zA, zk, zA', zk', rfl, rfl, rfl, -⟩ := XAt.shape hx6
              have HX6 := Lib.hid hx6
              have HGX6 := Lib.hid hgx6
              have g6' : wr.grownBy w6 (some rb) := grown_trans (below_row HD5.out.drew (some rb)) hg6
              have st6 := HST.out.later lrb g6' hroom6 (by omega) h62
              have ST6 := Lib.hid st6
              have cob6 : w6.cell? ⟨w.heap.size + 2, 2, none⟩ = some (.slice Av k cv) := (cell_of_row _ _ 2 _ _ (0, 0) st6.ob).trans rfl
              have hg9 := (hg6.block wr.heap.size (by simp; exact lg5) (by simp; omega)).trans G5.out
              have HG9 := Lib.hid hg9
              have hsz6 := hg6.size
              clear hx6 hgx6 hroom6 hg6 g6' st6 hg9
              refine hK.out _ _ ?s6A (fun hHeld => ?_)
              case s6A => exact KS.out _ HG9.out
              clear hK K
              try simp only [Act.put, List.setIfInBounds_toArray, List.set_cons_zero, List.set_cons_succ]
              refine wpAnyH_ready (rs := [7]) (by kernel_rfl) (by simp) ?_
              refine AllReadyH.cons (o := ?o7A) ?h7A (fun K hK => ?_) AllReadyH.nil
              case h7A => (simp only [List.getElem?_toArray, List.getElem?_cons_succ, List.getElem?_cons_zero] <;> rfl)
              go_simp
              have D7 : Below w6.heap.size w6 (w6.alloc (.cells #[.int .i64 t6, .slice zA d6.length zk, .slice zA' ks6.length zk'] 60)) := (Below.refl _ _).alloc (Nat.le_refl _) _
              have hg97 := (D7.block wr.heap.size (lt_of_block HG9.out)).trans HG9.out
              refine hK.out _ _ ?s7A (fun hHeld => ?_)
              case s7A => exact KS.out _ hg97
              clear hK K
              try simp only [Act.put, List.setIfInBounds_toArray, List.set_cons_zero, List.set_cons_succ]
              refine wpAnyH_ready (rs := [8]) (by kernel_rfl) (by simp) ?_
              refine AllReadyH.cons (o := ?o8A) ?h8A (fun K hK => ?_) AllReadyH.nil
              case h8A => (simp only [List.getElem?_toArray, List.getElem?_cons_succ, List.getElem?_cons_zero] <;> rfl)
              have st7 := ST6.out.later lrb (below_row D7 (some rb)) ((D7.block rb (lt_of_block ST6.out.room)).trans ST6.out.room) (Int.le_refl _) h62
              obtain ⟨A8, c8, w8, hrun, q1, q2, q3⟩ := st7.next (w6 := W5.drew) lrb (hsm := hsm6) (p := (.int .i64 t6, .slice zA d6.length zk, .slice zA' ks6.length zk')) (x := .node t6 d6 ks6) (XAt.keep (fun g hg => ⟨D7.block g hg.2, hg.1, Nat.lt_of_lt_of_le hg.2 D7.size⟩) _ _ _ _ HX6.out) (fun g e => Nat.lt_of_lt_of_le (own_lt HST.out.own e) (by simp; exact hszw5)) (by simp; omega) (by omega) (by omega) (by intro u hu; simp [triH] at hu; rcases hu with rfl | rfl | rfl <;> rfl) w6.heap.size (cell_three_new w6 _ _ _ _)
              refine wp_app (Operand.tmp 46) (Operand.tmp 52) 58 rfl rfl rfl hrun ?_
              have Q1 := Lib.hid q1
              have Q3 := Lib.hid q3
              have hg98 := q2 _ _ _ _ hg97 (by decide)
              have HG98 := Lib.hid hg98
              have cob8 : w8.cell? ⟨w.heap.size + 2, 2, none⟩ = some (.slice Av k cv) := (cell_of_row _ _ 2 _ _ (0, 0) q1).trans rfl
              have fob8 : w8.frozen? ⟨w.heap.size + 2, 2, none⟩ = false := frozen_of_row _ _ 2 _ _ q1
              refine hK.out _ _ ?s8A (fun hHeld => ?_)
              case s8A => exact KS.out _ hg98
              clear hK K
              try simp only [Act.put, List.setIfInBounds_toArray, List.set_cons_zero, List.set_cons_succ]
              clear hrun q1 q2 q3 st7 hg98
              refine wpAnyH_take (i := 9) (oi := ?o9A) (v := ?v9A) ?h9A (by kernel_rfl) (by kernel_rfl) (by kernel_rfl) ?q9A (Or.inl ⟨?w9A, ?y9A⟩) (by assumption) ?r9A
              case h9A => (simp only [List.getElem?_toArray, List.getElem?_cons_succ, List.getElem?_cons_zero] <;> rfl)
              case q9A => exact fun _ _ _ h => h
              case w9A => rfl
              case y9A => (intro w hSw; (try dsimp only at hSw); go_simp; (try with_reducible rfl))
              try simp only [Act.put, List.setIfInBounds_toArray, List.set_cons_zero, List.set_cons_succ]
              refine wpAnyH_ready (rs := [10]) (by kernel_rfl) (by simp) ?_
              refine AllReadyH.cons (o := ?o10A) ?h10A (fun K hK => ?_) AllReadyH.nil
              case h10A => (simp only [List.getElem?_toArray, List.getElem?_cons_succ, List.getElem?_cons_zero] <;> rfl)
              go_simp
              refine hK.out _ _ ?s10A (fun hHeld => ?_)
              case s10A => exact KS.out _ ((Below.heap_setCell _ _ _ _ (by simp; omega)).trans HG98.out)
              clear hK K
              try simp only [Act.put, List.setIfInBounds_toArray, List.set_cons_zero, List.set_cons_succ]
              refine wpAnyH_done (by kernel_rfl) ?_ _
              go_wp2_with fail
              go_roundw
              case rel =>
                refine ⟨k + 1, _, _, _, _, by omega, by go_num, Q3.out, fun h => ?_⟩
                rw [Goods.snoc] at h
                rw [HGD.out h.1, HGX6.out h.2]
                exact HSN.out
              case measure => simp [intOf]; omega
            case br6 =>
              go_simp
              refine (KIH.out _ _ _ _ dp rb r KID.out (HB0.out.trans (HD5.out.drew.mono hszw)) hrb ((HD5.out.block rb lrbr).trans HST.out.room) (by omega) (by omega) (by omega)).mono ?_
              rintro e w6 ⟨a6, b6, c6, x6, r6, rfl, hx6, hgx6, hsm6, h61, h62, hroom6, hg6⟩
              obtain ⟨t6, d6, ks6⟩ := x6
              obtain ⟨zA, zk, zA', zk', rfl, rfl, rfl, -⟩ := XAt.shape hx6
              have HX6 := Lib.hid hx6
              have HGX6 := Lib.hid hgx6
              have g6' : wr.grownBy w6 (some rb) := grown_trans (below_row HD5.out.drew (some rb)) hg6
              have st6 := HST.out.later lrb g6' hroom6 (by omega) h62
              have ST6 := Lib.hid st6
              have cob6 : w6.cell? ⟨w.heap.size + 2, 2, none⟩ = some (.slice Av k cv) := (cell_of_row _ _ 2 _ _ (0, 0) st6.ob).trans rfl
              have hg9 := (hg6.block wr.heap.size (by simp; exact lg5) (by simp; omega)).trans G5.out
              have HG9 := Lib.hid hg9
              have hsz6 := hg6.size
              clear hx6 hgx6 hroom6 hg6 g6' st6 hg9
              refine hK.out _ _ ?s6B (fun hHeld => ?_)
              case s6B => exact KS.out _ HG9.out
              clear hK K
              try simp only [Act.put, List.setIfInBounds_toArray, List.set_cons_zero, List.set_cons_succ]
              refine wpAnyH_ready (rs := [1, 7]) (by kernel_rfl) (by simp) ?_
              refine AllReadyH.cons (o := ?o1B) ?h1B (fun K hK => ?br1B) (AllReadyH.cons (o := ?o7B) ?h7B (fun K hK => ?br7B) (AllReadyH.nil))
              case h1B => (simp only [List.getElem?_toArray, List.getElem?_cons_succ, List.getElem?_cons_zero] <;> rfl)
              case h7B => (simp only [List.getElem?_toArray, List.getElem?_cons_succ, List.getElem?_cons_zero] <;> rfl)
              case br1B =>
                go_simp
                refine hK.out _ _ ?s1C (fun hHeld => ?_)
                case s1C => exact KS.out _ HG9.out
                clear hK K
                try simp only [Act.put, List.setIfInBounds_toArray, List.set_cons_zero, List.set_cons_succ]
                refine wpAnyH_ready (rs := [7]) (by kernel_rfl) (by simp) ?_
                refine AllReadyH.cons (o := ?o7C) ?h7C (fun K hK => ?_) AllReadyH.nil
                case h7C => (simp only [List.getElem?_toArray, List.getElem?_cons_succ, List.getElem?_cons_zero] <;> rfl)
                go_simp
                have D7 : Below w6.heap.size w6 (w6.alloc (.cells #[.int .i64 t6, .slice zA d6.length zk, .slice zA' ks6.length zk'] 60)) := (Below.refl _ _).alloc (Nat.le_refl _) _
                have hg97 := (D7.block wr.heap.size (lt_of_block HG9.out)).trans HG9.out
                refine hK.out _ _ ?s7C (fun hHeld => ?_)
                case s7C => exact KS.out _ hg97
                clear hK K
                try simp only [Act.put, List.setIfInBounds_toArray, List.set_cons_zero, List.set_cons_succ]
                refine wpAnyH_ready (rs := [8]) (by kernel_rfl) (by simp) ?_
                refine AllReadyH.cons (o := ?o8C) ?h8C (fun K hK => ?_) AllReadyH.nil
                case h8C => (simp only [List.getElem?_toArray, List.getElem?_cons_succ, List.getElem?_cons_zero] <;> rfl)
                have st7 := ST6.out.later lrb (below_row D7 (some rb)) ((D7.block rb (lt_of_block ST6.out.room)).trans ST6.out.room) (Int.le_refl _) h62
                obtain ⟨A8, c8, w8, hrun, q1, q2, q3⟩ := st7.next (w6 := W5.drew) lrb (hsm := hsm6) (p := (.int .i64 t6, .slice zA d6.length zk, .slice zA' ks6.length zk')) (x := .node t6 d6 ks6) (XAt.keep (fun g hg => ⟨D7.block g hg.2, hg.1, Nat.lt_of_lt_of_le hg.2 D7.size⟩) _ _ _ _ HX6.out) (fun g e => Nat.lt_of_lt_of_le (own_lt HST.out.own e) (by simp; exact hszw5)) (by simp; omega) (by omega) (by omega) (by intro u hu; simp [triH] at hu; rcases hu with rfl | rfl | rfl <;> rfl) w6.heap.size (cell_three_new w6 _ _ _ _)
                refine wp_app (Operand.tmp 46) (Operand.tmp 52) 58 rfl rfl rfl hrun ?_
                have Q1 := Lib.hid q1
                have Q3 := Lib.hid q3
                have hg98 := q2 _ _ _ _ hg97 (by decide)
                have HG98 := Lib.hid hg98
                have cob8 : w8.cell? ⟨w.heap.size + 2, 2, none⟩ = some (.slice Av k cv) := (cell_of_row _ _ 2 _ _ (0, 0) q1).trans rfl
                have fob8 : w8.frozen? ⟨w.heap.size + 2, 2, none⟩ = false := frozen_of_row _ _ 2 _ _ q1
                refine hK.out _ _ ?s8C (fun hHeld => ?_)
                case s8C => exact KS.out _ hg98
                clear hK K
                try simp only [Act.put, List.setIfInBounds_toArray, List.set_cons_zero, List.set_cons_succ]
                clear hrun q1 q2 q3 st7 hg98
                refine wpAnyH_take (i := 9) (oi := ?o9C) (v := ?v9C) ?h9C (by kernel_rfl) (by kernel_rfl) (by kernel_rfl) ?q9C (Or.inl ⟨?w9C, ?y9C⟩) (by assumption) ?r9C
                case h9C => (simp only [List.getElem?_toArray, List.getElem?_cons_succ, List.getElem?_cons_zero] <;> rfl)
                case q9C => exact fun _ _ _ h => h
                case w9C => rfl
                case y9C => (intro w hSw; (try dsimp only at hSw); go_simp; (try with_reducible rfl))
                try simp only [Act.put, List.setIfInBounds_toArray, List.set_cons_zero, List.set_cons_succ]
                refine wpAnyH_ready (rs := [10]) (by kernel_rfl) (by simp) ?_
                refine AllReadyH.cons (o := ?o10C) ?h10C (fun K hK => ?_) AllReadyH.nil
                case h10C => (simp only [List.getElem?_toArray, List.getElem?_cons_succ, List.getElem?_cons_zero] <;> rfl)
                go_simp
                refine hK.out _ _ ?s10C (fun hHeld => ?_)
                case s10C => exact KS.out _ ((Below.heap_setCell _ _ _ _ (by simp; omega)).trans HG98.out)
                clear hK K
                try simp only [Act.put, List.setIfInBounds_toArray, List.set_cons_zero, List.set_cons_succ]
                refine wpAnyH_done (by kernel_rfl) ?_ _
                go_wp2_with fail
                go_roundw
                case rel =>
                  refine ⟨k + 1, _, _, _, _, by omega, by go_num, Q3.out, fun h => ?_⟩
                  rw [Goods.snoc] at h
                  rw [HGD.out h.1, HGX6.out h.2]
                  exact HSN.out
                case measure => simp [intOf]; omega
              case br7B =>
                go_simp
                have D7 : Below w6.heap.size w6 (w6.alloc (.cells #[.int .i64 t6, .slice zA d6.length zk, .slice zA' ks6.length zk'] 60)) := (Below.refl _ _).alloc (Nat.le_refl _) _
                have hg97 := (D7.block wr.heap.size (lt_of_block HG9.out)).trans HG9.out
                have cob7 := cells_one D7 cob6
                refine hK.out _ _ ?s7D (fun hHeld => ?_)
                case s7D => exact KS.out _ hg97
                clear hK K
                try simp only [Act.put, List.setIfInBounds_toArray, List.set_cons_zero, List.set_cons_succ]
                refine wpAnyH_ready (rs := [1]) (by kernel_rfl) (by simp) ?_
                refine AllReadyH.cons (o := ?o1D) ?h1D (fun K hK => ?_) AllReadyH.nil
                case h1D => (simp only [List.getElem?_toArray, List.getElem?_cons_succ, List.getElem?_cons_zero] <;> rfl)
                go_simp
                refine hK.out _ _ ?s1D (fun hHeld => ?_)
                case s1D => exact KS.out _ hg97
                clear hK K
                try simp only [Act.put, List.setIfInBounds_toArray, List.set_cons_zero, List.set_cons_succ]
                refine wpAnyH_ready (rs := [8]) (by kernel_rfl) (by simp) ?_
                refine AllReadyH.cons (o := ?o8D) ?h8D (fun K hK => ?_) AllReadyH.nil
                case h8D => (simp only [List.getElem?_toArray, List.getElem?_cons_succ, List.getElem?_cons_zero] <;> rfl)
                have st7 := ST6.out.later lrb (below_row D7 (some rb)) ((D7.block rb (lt_of_block ST6.out.room)).trans ST6.out.room) (Int.le_refl _) h62
                obtain ⟨A8, c8, w8, hrun, q1, q2, q3⟩ := st7.next (w6 := W5.drew) lrb (hsm := hsm6) (p := (.int .i64 t6, .slice zA d6.length zk, .slice zA' ks6.length zk')) (x := .node t6 d6 ks6) (XAt.keep (fun g hg => ⟨D7.block g hg.2, hg.1, Nat.lt_of_lt_of_le hg.2 D7.size⟩) _ _ _ _ HX6.out) (fun g e => Nat.lt_of_lt_of_le (own_lt HST.out.own e) (by simp; exact hszw5)) (by simp; omega) (by omega) (by omega) (by intro u hu; simp [triH] at hu; rcases hu with rfl | rfl | rfl <;> rfl) w6.heap.size (cell_three_new w6 _ _ _ _)
                refine wp_app (Operand.tmp 46) (Operand.tmp 52) 58 rfl rfl rfl hrun ?_
                have Q1 := Lib.hid q1
                have Q3 := Lib.hid q3
                have hg98 := q2 _ _ _ _ hg97 (by decide)
                have HG98 := Lib.hid hg98
                have cob8 : w8.cell? ⟨w.heap.size + 2, 2, none⟩ = some (.slice Av k cv) := (cell_of_row _ _ 2 _ _ (0, 0) q1).trans rfl
                have fob8 : w8.frozen? ⟨w.heap.size + 2, 2, none⟩ = false := frozen_of_row _ _ 2 _ _ q1
                refine hK.out _ _ ?s8D (fun hHeld => ?_)
                case s8D => exact KS.out _ hg98
                clear hK K
                try simp only [Act.put, List.setIfInBounds_toArray, List.set_cons_zero, List.set_cons_succ]
                clear hrun q1 q2 q3 st7 hg98
                refine wpAnyH_take (i := 9) (oi := ?o9D) (v := ?v9D) ?h9D (by kernel_rfl) (by kernel_rfl) (by kernel_rfl) ?q9D (Or.inl ⟨?w9D, ?y9D⟩) (by assumption) ?r9D
                case h9D => (simp only [List.getElem?_toArray, List.getElem?_cons_succ, List.getElem?_cons_zero] <;> rfl)
                case q9D => exact fun _ _ _ h => h
                case w9D => rfl
                case y9D => (intro w hSw; (try dsimp only at hSw); go_simp; (try with_reducible rfl))
                try simp only [Act.put, List.setIfInBounds_toArray, List.set_cons_zero, List.set_cons_succ]
                refine wpAnyH_ready (rs := [10]) (by kernel_rfl) (by simp) ?_
                refine AllReadyH.cons (o := ?o10D) ?h10D (fun K hK => ?_) AllReadyH.nil
                case h10D => (simp only [List.getElem?_toArray, List.getElem?_cons_succ, List.getElem?_cons_zero] <;> rfl)
                go_simp
                refine hK.out _ _ ?s10D (fun hHeld => ?_)
                case s10D => exact KS.out _ ((Below.heap_setCell _ _ _ _ (by simp; omega)).trans HG98.out)
                clear hK K
                try simp only [Act.put, List.setIfInBounds_toArray, List.set_cons_zero, List.set_cons_succ]
                refine wpAnyH_done (by kernel_rfl) ?_ _
                go_wp2_with fail
                go_roundw
                case rel =>
                  refine ⟨k + 1, _, _, _, _, by omega, by go_num, Q3.out, fun h => ?_⟩
                  rw [Goods.snoc] at h
                  rw [HGD.out h.1, HGX6.out h.2]
                  exact HSN.out
                case measure => simp [intOf]; omega
        · have hkk : k = ks.length := by omega
          subst hkk
          have hkd := HGD.out
          rw [List.take_length] at hkd
          have HKD := Lib.hid hkd
          have hob := HST.out.ob
          have hres := HST.out.res
          have f0 := frozen_of_row _ _ 0 _ _ hres
          have f1 := frozen_of_row _ _ 1 _ _ hres
          have f2 := frozen_of_row _ _ 2 _ _ hres
          have p0 : wr.cell? ⟨w.heap.size + 1, 0, none⟩ = some (.int .i64 0) := (cell_of_row _ _ 0 _ _ (0, 0) hres).trans rfl
          have p1 : wr.cell? ⟨w.heap.size + 1, 1, none⟩ = some (.slice none 0 0) := (cell_of_row _ _ 1 _ _ (0, 0) hres).trans rfl
          have p2 : wr.cell? ⟨w.heap.size + 1, 2, none⟩ = some (.slice none 0 0) := (cell_of_row _ _ 2 _ _ (0, 0) hres).trans rfl
          have o0 : wr.cell? ⟨w.heap.size + 2, 0, none⟩ = some (.int .i64 t) := (cell_of_row _ _ 0 _ _ (0, 0) hob).trans rfl
          have o1 : wr.cell? ⟨w.heap.size + 2, 1, none⟩ = some (.slice A d.length k1) := (cell_of_row _ _ 1 _ _ (0, 0) hob).trans rfl
          have o2 : wr.cell? ⟨w.heap.size + 2, 2, none⟩ = some (.slice Av ks.length cv) := (cell_of_row _ _ 2 _ _ (0, 0) hob).trans rfl
          have fq := three_set hres (.int .i64 t) (.slice A d.length k1) (.slice Av ks.length cv)
          have fp : AmongPost w0 w (.node t d ks) rb room (.returned (.agg #[.int .i64 t, .slice A d.length k1, .slice Av ks.length cv])) (((wr.setCell ⟨w.heap.size + 1, 0, none⟩ (.int .i64 t)).setCell ⟨w.heap.size + 1, 1, none⟩ (.slice A d.length k1)).setCell ⟨w.heap.size + 1, 2, none⟩ (.slice Av ks.length cv)) := by
            refine ⟨_, _, _, .node t d ks', r, rfl, ?_, fun h => by simp only [Good] at h; rw [HKD.out h.2.2.2], by simp only [Small]; exact ⟨hdsm, HST.out.small⟩, hr3, hr5, (three_far _ _ _ _ (by omega)).trans HST.out.room, three_grown HST.out.grown (by omega) _ _ _⟩
            simp only [XAt]
            refine ⟨trivial, HDB.out, hdl, HBY.out, Av, cv, by rw [hkl], by rw [hkl]; exact hcv, hcv2, fun hne => ?_⟩
            obtain ⟨g, rfl, hg1, hg2⟩ := HAV.out (by rw [← hkl]; exact List.length_pos_iff.2 hne)
            refine ⟨g, 0, rfl, ⟨by omega, by rw [three_size]; exact hg2⟩, XRow.at_ hs ks' 0 (HST.out.row.keep fun q hq => ⟨three_far _ _ _ _ (by omega), by omega, by rw [three_size]; exact hq.2.1⟩) (fun j u hj => ?_)⟩
            have h := HST.out.own.cells (g := g) (by simp [Value.ownBlock]) j u hj
            rw [Addr.add_lit] at h
            rw [World.cell?_of_block (w := wr) (three_far _ _ _ _ (by simp; omega))]
            exact h
          have FQ := Lib.hid fq
          have FP := Lib.hid fp
          clear fq fp hob hres hkd
          go_wp2_with fail
          obtain ⟨W3, hW3⟩ : ∃ W3, W3 = ((wr.setCell ⟨w.heap.size + 1, 0, none⟩ (.int .i64 t)).setCell ⟨w.heap.size + 1, 1, none⟩ (.slice A d.length k1)).setCell ⟨w.heap.size + 1, 2, none⟩ (.slice Av ks.length cv) := ⟨_, rfl⟩
          have fq := FQ.out
          have fp := FP.out
          rw [← hW3] at fq fp
          rw [← hW3]
          have s0 : W3.cell? ⟨w.heap.size + 1, 0, none⟩ = some (.int .i64 t) := (cell_of_row _ _ 0 _ _ (0, 0) fq).trans rfl
          have s1 : W3.cell? ⟨w.heap.size + 1, 1, none⟩ = some (.slice A d.length k1) := (cell_of_row _ _ 1 _ _ (0, 0) fq).trans rfl
          have s2 : W3.cell? ⟨w.heap.size + 1, 2, none⟩ = some (.slice Av ks.length cv) := (cell_of_row _ _ 2 _ _ (0, 0) fq).trans rfl
          exact bodyPost_ret (v := .agg #[.int .i64 t, .slice A d.length k1, .slice Av ks.length cv]) (by simp [results, Try.results57, go_sem, s0, s1, s2]) rfl fp

/-- The copy of an attribute of whatever depth. -/
theorem among_calls (w0 : World) : ∀ T : Tree, AmongCalls w0 T
  | .node t d ks => among_step w0 t d ks (fun x _ => among_calls w0 x)
termination_by T => SizeOf.sizeOf T
decreasing_by
  rename_i h
  have := List.sizeOf_lt_of_mem h
  simp
  omega
end Go.Proofs.Ytbogknjgjbhagaa
