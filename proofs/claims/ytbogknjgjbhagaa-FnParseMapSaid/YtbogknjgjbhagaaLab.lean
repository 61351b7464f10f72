/- Stacks of labels: the reference writes each label in four bytes, the package writes the same, and reads them back. -/
import Derived.Test.YtbogknjgjbhagaaBe
namespace Go.Proofs.Ytbogknjgjbhagaa
open Go.RowKit

def labAt (l : List Int) (i : Nat) : Int := l.getD i 0 * 4096 + if i + 1 = l.length then 256 else 0
def labB (l : List Int) (k : Nat) : List Int := (List.range (4 * k)).map fun j => byteBe (labAt l (j / 4)) (j % 4)

theorem labB_length (l : List Int) (k : Nat) : (labB l k).length = 4 * k := by simp [labB]

theorem labB_succ (l : List Int) (k : Nat) : labB l (k + 1) = labB l k ++ [byteBe (labAt l k) 0, byteBe (labAt l k) 1, byteBe (labAt l k) 2, byteBe (labAt l k) 3] := by
  unfold labB
  rw [show 4 * (k + 1) = 4 * k + 1 + 1 + 1 + 1 from by omega]
  simp only [List.range_succ, List.map_append, List.map_cons, List.map_nil, List.append_assoc]
  rw [show 4 * k / 4 = k from by omega, show 4 * k % 4 = 0 from by omega, show (4 * k + 1) / 4 = k from by omega, show (4 * k + 1) % 4 = 1 from by omega,
    show (4 * k + 1 + 1) / 4 = k from by omega, show (4 * k + 1 + 1) % 4 = 2 from by omega, show (4 * k + 1 + 1 + 1) / 4 = k from by omega, show (4 * k + 1 + 1 + 1) % 4 = 3 from by omega]
  rfl

theorem cell_four_new (w : World) (a b c d : Value) (t : TypeId) : ∀ j u, [a, b, c, d][j]? = some u → (w.alloc (.cells #[a, b, c, d] t)).cell? ((⟨w.heap.size, 0, none⟩ : Addr).add j) = some u := by
  intro j u hj
  rw [Addr.add_lit, Nat.zero_add]
  rw [cell_of_row _ _ j _ _ (0, 0) (heap_alloc_new w _)]
  simpa using hj

theorem byteBe0 (y : Int) (h : 0 ≤ y ∧ y < 4294967296) : byteBe y 0 = y / 16777216 := by unfold byteBe; simp; omega
theorem byteBe1 (y : Int) : byteBe y 1 = y / 65536 % 256 := by unfold byteBe; simp
theorem byteBe2 (y : Int) : byteBe y 2 = y / 256 % 256 := by unfold byteBe; simp
theorem byteBe3 (y : Int) : byteBe y 3 = y % 256 := by unfold byteBe; simp

theorem or256 (x : Int) (h : 0 ≤ x ∧ x < 1048576) : bits .or .u32 (x * 4096) 256 = x * 4096 + 256 := by
  obtain ⟨a, rfl⟩ := Int.eq_ofNat_of_zero_le h.1
  have e : (a : Int) * 4096 = ((a * 4096 : Nat) : Int) := by omega
  have j : a * 4096 ||| 256 = a * 4096 + 256 := nat_join 12 _ _ (by omega) (by omega)
  have := sw_u32o (a * 4096) 256 (by omega) (by omega)
  rw [e]
  rw [j] at this
  exact this

set_option maxHeartbeats 1000000 in
set_option maxRecDepth 100000 in
theorem spec_Labels_calls (b o c : Nat) (l : List Int) (w : World) (hc : ∀ j, j < l.length → w.cell? ⟨b, o + j, none⟩ = some (.int .i64 (l.getD j 0))) (hl : ∀ x ∈ l, 0 ≤ x ∧ x < 1048576) (h30 : l.length ≤ 30) (_hlc : l.length ≤ c) :
    Calls Try.prog 16 #[.slice (some ⟨b, o, none⟩) l.length c] w fun e w' => ∃ v, e = .returned v ∧ w'.ownsRow w.heap.size 5 1 v (4 * l.length) (bytesC (labB l l.length)) ∧ Below w.heap.size w w' := by
  obtain ⟨i0, hi, hz0, hz1, hz2⟩ := info_parts Try.info5
  have HC := Lib.hid hc
  have HL := Lib.hid hl
  clear hc hl
  go_enter Try.func16, Try.ntmps16
  go_wp2
  go_loopw [3, 9] (fun v i wr => ∃ k : Nat, k ≤ l.length ∧ i = .int .i64 k ∧ wr.ownsRow w.heap.size 5 1 v (4 * k) (bytesC (labB l k)) ∧ Below w.heap.size w wr)
    (fun _ i _ => l.length - (intOf i).toNat)
  case atStart => exact ⟨0, Nat.zero_le _, rfl, World.ownsRow_nil _ _ _ _, Below.refl _ _⟩
  case round =>
    obtain ⟨k, hk, rfl, hown, hb⟩ := hrel
    by_cases hlt : k < l.length
    · obtain ⟨x, hx⟩ : ∃ x, x = l.getD k 0 := ⟨_, rfl⟩
      have hxb : 0 ≤ x ∧ x < 1048576 := by
        rw [hx, List.getD_eq_getElem?_getD, List.getElem?_eq_getElem hlt]; exact HL.out _ (List.getElem_mem hlt)
      have hcell : wr.cell? ⟨b, o + k, none⟩ = some (.int .i64 x) := by
        have h1 := HC.out k hlt
        rw [hb.cell (World.block_lt_of_cell? w _ h1), h1, hx]
      obtain ⟨y, hy⟩ : ∃ y, y = labAt l k := ⟨_, rfl⟩
      have hy2 : y = x * 4096 + if k + 1 = l.length then 256 else 0 := by rw [hy, hx]; rfl
      have hyb : 0 ≤ y ∧ y < 4294967296 := by rw [hy2]; split <;> omega
      have HB := Lib.hid hb
      have HY := Lib.hid hy
      have HO := Lib.hid hown
      clear hx hy hb hown
      have step : ∀ (v' : Value) (w1 : World), w1.ownsRow w.heap.size 5 1 v' (4 * k + 4) (bytesC (labB l k) ++ [.int .u8 (y / 16777216), .int .u8 (y / 65536 % 256), .int .u8 (y / 256 % 256), .int .u8 (y % 256)]) →
          w1.ownsRow w.heap.size 5 1 v' (4 * (k + 1)) (bytesC (labB l (k + 1))) := by
        intro v' w1 h
        rw [labB_succ, ← HY.out, byteBe0 y hyb, byteBe1, byteBe2, byteBe3, bytesC, List.map_append, show 4 * (k + 1) = 4 * k + 4 from by omega]
        exact h
      have HS := Lib.hid step
      clear step
      by_cases hlast : k + 1 = l.length
      · have hor : bits BinOp.or IntKind.u32 (x * 4096) 256 = y := by rw [or256 x hxb, hy2, if_pos hlast]
        have hlast' : l.length ≤ k + 1 := by omega
        clear hlast hy2
        go_wp2_with (at_builtin; refine wpList_append_own _ rfl _ _ 31 rfl w.heap.size 5 i0 (.int .u8 0) 1 1 Try.underlying31 hi hz0 hz1 hz2 rfl (by decide) _ _ _ rfl (HO.out.alloc _) ⟨wr.heap.size, 0, none⟩ 4 4 [.int .u8 (y / 16777216), .int .u8 (y / 65536 % 256), .int .u8 (y / 256 % 256), .int .u8 (y % 256)] rfl rfl ?c1 ?c2 ?c3 ?c4 ?c5 ?_)
        case c1 => exact cell_four_new _ _ _ _ _ _
        case c2 => intro u hu; simp at hu; rcases hu with rfl | rfl | rfl | rfl <;> rfl
        case c3 => unfold maxLen; omega
        case c4 => omega
        case c5 => have := HB.out.size; simp; omega
        intro v' w1 hown' hgrow _
        have R := HS.out v' w1 hown'
        have B2 : Below w.heap.size w w1 := (HB.out.alloc HB.out.size _).grown hgrow (by have := HB.out.size; simp; omega) (fun q hq => (HO.out.lt q hq).1)
        clear hown' hgrow
        go_wp2
        go_roundw
        case rel => exact ⟨k + 1, by omega, by go_num, R, B2⟩
        case measure => simp [intOf]; omega
      · have hy3 : x * 4096 = y := by rw [hy2, if_neg hlast]; omega
        have hlast' : (k : Int) ≠ l.length - 1 := by omega
        clear hlast hy2
        go_wp2_with (at_builtin; refine wpList_append_own _ rfl _ _ 31 rfl w.heap.size 5 i0 (.int .u8 0) 1 1 Try.underlying31 hi hz0 hz1 hz2 rfl (by decide) _ _ _ rfl (HO.out.alloc _) ⟨wr.heap.size, 0, none⟩ 4 4 [.int .u8 (y / 16777216), .int .u8 (y / 65536 % 256), .int .u8 (y / 256 % 256), .int .u8 (y % 256)] rfl rfl ?d1 ?d2 ?d3 ?d4 ?d5 ?_)
        case d1 => exact cell_four_new _ _ _ _ _ _
        case d2 => intro u hu; simp at hu; rcases hu with rfl | rfl | rfl | rfl <;> rfl
        case d3 => unfold maxLen; omega
        case d4 => omega
        case d5 => have := HB.out.size; simp; omega
        intro v' w1 hown' hgrow _
        have R := HS.out v' w1 hown'
        have B2 : Below w.heap.size w w1 := (HB.out.alloc HB.out.size _).grown hgrow (by have := HB.out.size; simp; omega) (fun q hq => (HO.out.lt q hq).1)
        clear hown' hgrow
        go_wp2
        go_roundw
        case rel => exact ⟨k + 1, by omega, by go_num, R, B2⟩
        case measure => simp [intOf]; omega
    · have : k = l.length := by omega
      subst this
      go_wp2
      go_ret
      exact ⟨_, rfl, hown, hb⟩
end Go.Proofs.Ytbogknjgjbhagaa
