/- The package writes a stack of labels: the same bytes. -/
import Derived.Test.YtbogknjgjbhagaaLab
namespace Go.Proofs.Ytbogknjgjbhagaa
open Go.RowKit

theorem or256i (x : Int) (h : 0 ≤ x ∧ x < 1048576) : bits .or .i64 (x * 4096) 256 = x * 4096 + 256 := by
  have h2 := bits_join .i64 63 (by decide) (fun n h0 h1 => by rw [IntKind.wrap_i64]; omega) 12 (x * 4096) 256 (by omega) (by omega) (by omega) (by decide) (by decide) (by omega)
  exact h2

theorem set_four {α : Type} (A : List α) (m p : Nat) (z a b c d : α) (h : A.length = p) :
    ((((A ++ List.replicate (m + 4) z).set p a).set (p + 1) b).set (p + 2) c).set (p + 3) d = A ++ [a, b, c, d] ++ List.replicate m z := by
  subst h
  simp [List.set_append_right, List.replicate_succ]

theorem encode_step (l : List Int) (k : Nat) (y : Int) (hk : k < l.length) (hy : y = labAt l k) :
    ((((bytesC (labB l k) ++ List.replicate (4 * (l.length - k)) (Value.int .u8 0)).set (k * 4) (.int .u8 (byteBe y 0))).set (k * 4 + 1) (.int .u8 (byteBe y 1))).set (k * 4 + 2) (.int .u8 (byteBe y 2))).set (k * 4 + 3) (.int .u8 (byteBe y 3)) =
      bytesC (labB l (k + 1)) ++ List.replicate (4 * (l.length - (k + 1))) (Value.int .u8 0) := by
  rw [show 4 * (l.length - k) = 4 * (l.length - (k + 1)) + 4 from by omega, set_four _ _ _ _ _ _ _ _ (by rw [bytesC_length, labB_length]; omega), labB_succ, hy]
  simp [bytesC]

set_option maxHeartbeats 1000000 in
set_option maxRecDepth 100000 in
theorem encode_calls (b o c : Nat) (l : List Int) (w : World) (hc : ∀ j, j < l.length → w.cell? ⟨b, o + j, none⟩ = some (.int .i64 (l.getD j 0))) (hl : ∀ x ∈ l, 0 ≤ x ∧ x < 1048576) (h30 : l.length ≤ 30) (_hlc : l.length ≤ c) :
    Calls Try.prog 46 #[.slice (some ⟨b, o, none⟩) l.length c] w fun e w' => ∃ v, e = .returned v ∧ w'.ownsRow w.heap.size 5 1 v (4 * l.length) (bytesC (labB l l.length)) ∧ Below w.heap.size w w' := by
  obtain ⟨i0, hi, hz0, hz1, hz2⟩ := info_parts Try.info5
  have HC := Lib.hid hc
  have HL := Lib.hid hl
  clear hc hl
  go_enter Try.func46, Try.ntmps46
  go_wp2_with (at_make; go_must (refine wpList_make_full _ rfl _ _ 31 rfl w.heap.size 5 i0 (.int .u8 0) 1 Try.underlying31 hi hz0 hz1 .i64 .i64 _ _ (4 * l.length) rfl rfl (by omega) (by omega) (by rw [hz2]; omega) (by unfold maxLen; omega) (Nat.le_refl _) ?_))
  intro w1 hown hgrow
  have hb1 : Below w.heap.size w w1 := (Below.refl _ w).grown hgrow (Nat.le_refl _) (by intro k hk; cases hk)
  have hown0 : w1.ownsRow w.heap.size 5 1 (.slice (some ⟨w.heap.size, 0, none⟩) (4 * l.length) (4 * l.length)) (4 * l.length) (bytesC (labB l 0) ++ List.replicate (4 * (l.length - 0)) (.int .u8 0)) := by
    rw [toList_madeCells_one] at hown
    simpa [labB, bytesC] using hown
  have HO0 := Lib.hid hown0
  have HB0 := Lib.hid hb1
  clear hown hown0 hgrow hb1
  go_wp2
  go_loopw [13] (fun i wr => ∃ k : Nat, k ≤ l.length ∧ i = .int .i64 k ∧ wr.ownsRow w.heap.size 5 1 (.slice (some ⟨w.heap.size, 0, none⟩) (4 * l.length) (4 * l.length)) (4 * l.length) (bytesC (labB l k) ++ List.replicate (4 * (l.length - k)) (.int .u8 0)) ∧ Below w.heap.size w wr)
    (fun i _ => l.length - (intOf i).toNat)
  case atStart => exact ⟨0, Nat.zero_le _, rfl, HO0.out, HB0.out⟩
  case round =>
    obtain ⟨k, hk, rfl, hown, hb⟩ := hrel
    clear HO0 HB0
    by_cases hlt : k < l.length
    · obtain ⟨x, hx⟩ : ∃ x, x = l.getD k 0 := ⟨_, rfl⟩
      have hxb : 0 ≤ x ∧ x < 1048576 := by
        rw [hx, List.getD_eq_getElem?_getD, List.getElem?_eq_getElem hlt]; exact HL.out _ (List.getElem_mem hlt)
      have hcell : wr.cell? ⟨b, o + k, none⟩ = some (.int .i64 x) := by
        have h1 := HC.out k hlt
        rw [hb.cell (World.block_lt_of_cell? w _ h1), h1, hx]
      obtain ⟨y, hy⟩ : ∃ y, y = labAt l k := ⟨_, rfl⟩
      have hy2 : y = x * 4096 + if k + 1 = l.length then 256 else 0 := by rw [hy, hx]; rfl
      have hyb : 0 ≤ y ∧ y < 4294967296 := by rw [hy2]; split <;> omega
      have HB := Lib.hid hb
      have HY := Lib.hid hy
      have HO := Lib.hid hown
      clear hx hy hb hown
      by_cases hlast : k + 1 = l.length
      · have hor : bits BinOp.or IntKind.i64 (x * 4096) 256 = y := by rw [or256i x hxb, hy2, if_pos hlast]
        have hlast' : l.length ≤ k + 1 := by omega
        clear hlast hy2
        go_wp2_with fail
        refine (bePutUint32_calls w.heap.size w.heap.size (4 * l.length) (4 * l.length) (k * 4) _ _ _ y wr hyb HO.out (by omega) (by omega)).mono ?_
        rintro e w2 ⟨rfl, hown2, hg2⟩
        rw [encode_step l k y hlt HY.out] at hown2
        have B2 : Below w.heap.size w w2 := HB.out.grown hg2 HB.out.size (by intro q hq; simp at hq; omega)
        clear hg2
        go_wp2
        go_roundw
        case rel => exact ⟨k + 1, by omega, by go_num, hown2, B2⟩
        case measure => simp [intOf]; omega
      · have hy3 : x * 4096 = y := by rw [hy2, if_neg hlast]; omega
        have hlast' : (k : Int) ≠ l.length - 1 := by omega
        clear hlast hy2
        go_wp2_with fail
        refine (bePutUint32_calls w.heap.size w.heap.size (4 * l.length) (4 * l.length) (k * 4) _ _ _ y wr hyb HO.out (by omega) (by omega)).mono ?_
        rintro e w2 ⟨rfl, hown2, hg2⟩
        rw [encode_step l k y hlt HY.out] at hown2
        have B2 : Below w.heap.size w w2 := HB.out.grown hg2 HB.out.size (by intro q hq; simp at hq; omega)
        clear hg2
        go_wp2
        go_roundw
        case rel => exact ⟨k + 1, by omega, by go_num, hown2, B2⟩
        case measure => simp [intOf]; omega
    · have : k = l.length := by omega
      subst this
      go_wp2
      go_ret
      exact ⟨_, rfl, by simpa using hown, hb⟩
end Go.Proofs.Ytbogknjgjbhagaa
