/- The package reads a stack of labels back out of its bytes. -/
import Derived.Test.YtbogknjgjbhagaaLab2
namespace Go.Proofs.Ytbogknjgjbhagaa
open Go.RowKit

theorem byteBe_range (y : Int) (r : Nat) : 0 ≤ byteBe y r ∧ byteBe y r < 256 := by unfold byteBe; omega

theorem be32_of (y : Int) (h : 0 ≤ y ∧ y < 4294967296) : be32 (byteBe y 0) (byteBe y 1) (byteBe y 2) (byteBe y 3) = y := by
  rw [byteBe0 y h, byteBe1, byteBe2, byteBe3]; unfold be32; omega

theorem labB_get (l : List Int) (n i r : Nat) (hi : i < n) (hr : r < 4) : (labB l n)[4 * i + r]? = some (byteBe (labAt l i) r) := by
  unfold labB
  rw [List.getElem?_map, List.getElem?_range (by omega)]
  simp only [Option.map_some]
  rw [show (4 * i + r) / 4 = i from by omega, show (4 * i + r) % 4 = r from by omega]

theorem and1 (y : Int) (h : 0 ≤ y ∧ y < 4294967296) : bits .and .u32 (y / 256) 1 = y / 256 % 2 := by
  obtain ⟨a, rfl⟩ := Int.eq_ofNat_of_zero_le h.1
  have e : (a : Int) / 256 = ((a / 256 : Nat) : Int) := by omega
  have := sw_u32a (a / 256) 1 (by omega) (by omega)
  rw [e]
  rw [nat_mask1] at this
  exact this.trans (by omega)

/-- A slice's length, for a loop's measure. -/
def lenVal : Value → Nat | .slice _ n _ => n | _ => 0

set_option maxHeartbeats 1000000 in
set_option maxRecDepth 100000 in
theorem decode_calls (b o c : Nat) (l : List Int) (w : World) (hc : ∀ j u, (bytesC (labB l l.length))[j]? = some u → w.cell? ⟨b, o + j, none⟩ = some u) (hl : ∀ x ∈ l, 0 ≤ x ∧ x < 1048576) (h30 : l.length ≤ 30) (h0 : 0 < l.length) (hlc : 4 * l.length ≤ c) :
    Calls Try.prog 44 #[.slice (some ⟨b, o, none⟩) (4 * l.length) c] w fun e w' => ∃ v, e = .returned v ∧ w'.ownsRow w.heap.size 3 1 v l.length (intsC l) ∧ Below w.heap.size w w' := by
  obtain ⟨i0, hi, hz0, hz1, hz2⟩ := info_parts Try.info3
  have HC := Lib.hid hc
  have HL := Lib.hid hl
  clear hc hl
  go_enter Try.func44, Try.ntmps44
  go_wp2_with (at_make; go_must (refine wpList_make_own _ rfl _ _ 30 rfl w.heap.size 3 i0 (.int .i64 0) 1 Try.underlying30 hi hz0 hz1 .i64 .i64 _ l.length rfl rfl (by omega) (by rw [hz2]; omega) (by unfold maxLen; omega) (Nat.le_refl _) ?_))
  intro w1 hown hgrow
  have hb1 : Below w.heap.size w w1 := (Below.refl _ w).grown hgrow (Nat.le_refl _) (by intro k hk; cases hk)
  have HO0 := Lib.hid hown
  have HB0 := Lib.hid hb1
  clear hown hgrow hb1
  go_wp2
  go_loopw [0, 3] (fun s v wr => ∃ k : Nat, k < l.length ∧ s = .slice (some ⟨b, o + 4 * k, none⟩) (4 * l.length - 4 * k) (c - 4 * k) ∧ wr.ownsRow w.heap.size 3 1 v k (intsC (l.take k)) ∧ Below w.heap.size w wr)
    (fun s _ _ => lenVal s)
  case atStart => exact ⟨0, h0, rfl, HO0.out, HB0.out⟩
  case round =>
    obtain ⟨k, hk, rfl, hown, hb⟩ := hrel
    clear HO0 HB0
    obtain ⟨x, hx⟩ : ∃ x, x = l.getD k 0 := ⟨_, rfl⟩
    have hxb : 0 ≤ x ∧ x < 1048576 := by
      rw [hx, List.getD_eq_getElem?_getD, List.getElem?_eq_getElem hk]; exact HL.out _ (List.getElem_mem hk)
    obtain ⟨y, hy⟩ : ∃ y, y = labAt l k := ⟨_, rfl⟩
    have hy2 : y = x * 4096 + if k + 1 = l.length then 256 else 0 := by rw [hy, hx]; rfl
    have hyb : 0 ≤ y ∧ y < 4294967296 := by rw [hy2]; split <;> omega
    have hyx : y / 4096 = x := by rw [hy2]; split <;> omega
    have cell : ∀ r, r < 4 → wr.cell? ⟨b, o + 4 * k + r, none⟩ = some (.int .u8 (byteBe y r)) := fun r hr => by
      have h1 := HC.out (4 * k + r) (.int .u8 (byteBe y r)) (by rw [bytesC, List.getElem?_map, labB_get l _ k r hk hr, hy]; rfl)
      rw [← Nat.add_assoc] at h1
      rw [hb.cell (World.block_lt_of_cell? w _ h1), h1]
    have c0 := cell 0 (by omega)
    have c1 := cell 1 (by omega)
    have c2 := cell 2 (by omega)
    have c3 := cell 3 (by omega)
    have hcap : 4 ≤ c - 4 * k := by omega
    have hlen : 4 ≤ 4 * l.length - 4 * k := by omega
    have HB := Lib.hid hb
    have HO := Lib.hid hown
    have HX := Lib.hid hx
    have HCELL := Lib.hid (And.intro c0 (And.intro c1 (And.intro c2 c3)))
    have htake : l.take (k + 1) = l.take k ++ [x] := by rw [List.take_succ_eq_append_getElem hk, hx, List.getD_eq_getElem?_getD, List.getElem?_eq_getElem hk]; rfl
    have HT := Lib.hid htake
    clear hx hy hb hown cell c0 c1 c2 c3 htake
    have E := be32_of y hyb
    have hcase : (l.length ≤ k + 1 ∧ c ≤ 4 * k + 4 ∧ y / 256 % 2 = 1) ∨ (l.length ≤ k + 1 ∧ 4 * k + 4 < c ∧ y / 256 % 2 = 1) ∨ (k + 1 < l.length ∧ 4 * k + 4 < c ∧ y / 256 % 2 = 0) := by
      rcases Nat.lt_or_ge (k + 1) l.length with h | h
      · exact .inr (.inr ⟨h, by omega, by rw [hy2, if_neg (by omega)]; omega⟩)
      · have h2 : y / 256 % 2 = 1 := by rw [hy2, if_pos (by omega)]; omega
        rcases Nat.lt_or_ge (4 * k + 4) c with h3 | h3
        · exact .inr (.inl ⟨h, h3, h2⟩)
        · exact .inl ⟨h, h3, h2⟩
    clear hy2
    rcases hcase with ⟨q1, q2, q3⟩ | ⟨q1, q2, q3⟩ | ⟨q1, q2, q3⟩
    all_goals
      have A1 := (and1 y hyb).trans q3
      clear q3
      go_wp2_with fail
      refine (beUint32_calls b (o + 4 * k) 4 (c - 4 * k) _ _ _ _ wr (by omega) (byteBe_range y 0) (byteBe_range y 1) (byteBe_range y 2) (byteBe_range y 3) HCELL.out.1 HCELL.out.2.1 HCELL.out.2.2.1 HCELL.out.2.2.2).mono ?_
      rintro e w2 ⟨rfl, m, rfl⟩
      go_wp2_with (at_builtin; go_must (refine wpList_append_own _ rfl _ _ 30 rfl w.heap.size 3 i0 (.int .i64 0) 1 8 Try.underlying30 hi hz0 hz1 hz2 rfl (by decide) _ _ _ rfl (by exact HO.out.alloc _) ⟨wr.heap.size, 0, none⟩ 1 1 [.int .i64 x] rfl rfl (by exact cell_one_new _ _ _) (by intro u hu; simp at hu; subst hu; rfl) (by unfold maxLen; omega) (by omega) (by have := HB.out.size; simp; omega) ?_))
      intro v' w3 hown' hgrow _
      have R : w3.ownsRow w.heap.size 3 1 v' (k + 1) (intsC (l.take (k + 1))) := by rw [HT.out, intsC, List.map_append]; exact hown'
      have B2 : Below w.heap.size w w3 := (below_drewN (HB.out.alloc HB.out.size (.cells #[.int .i64 x] 3)) m).grown hgrow (by have := HB.out.size; simp; omega) (fun q hq => (HO.out.lt q hq).1)
      have HR := Lib.hid R
      have HB2 := Lib.hid B2
      clear hown' hgrow R B2
      go_wp2
      first
        | (go_roundw
           case rel => exact ⟨k + 1, q1, by rw [show 4 * l.length - 4 * k - 4 = 4 * l.length - 4 * (k + 1) from by omega, show c - 4 * k - 4 = c - 4 * (k + 1) from by omega, show o + 4 * k + 4 = o + 4 * (k + 1) from by omega], HR.out, HB2.out⟩
           case measure => simp [lenVal]; omega)
        | (go_ret
           have e : k + 1 = l.length := by omega
           rw [e] at HR
           exact ⟨_, rfl, by simpa using HR.out, HB2.out⟩)
end Go.Proofs.Ytbogknjgjbhagaa
