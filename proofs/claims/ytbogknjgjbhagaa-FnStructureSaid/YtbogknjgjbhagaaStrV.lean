/- Each structure: what it takes, what it gives. -/
import Derived.Test.YtbogknjgjbhagaaStrU
import Derived.Test.YtbogknjgjbhagaaStrF
import Derived.Test.YtbogknjgjbhagaaStrG
import Derived.Test.YtbogknjgjbhagaaStrN
namespace Go.Proofs.Ytbogknjgjbhagaa
open Go.RowKit
set_option linter.unusedSimpArgs false
set_option linter.unusedVariables false

/-- Numbers that fit a structure. -/
def FitL (K : Int) (cs : List Nat) (l : List Int) : Prop := l.length = cnt cs ∧ OkAt cs l 0 ∧ (K = 0 → l.getD 2 0 < 2147483648)
/-- All that is known of one kind. -/
structure Kd (K : Int) (s : ByteArray) (cs : List Nat) (bl : List Int) : Prop where
  shp : Shp K s cs
  zero : K = 0 → 2 < cnt cs
  bits : ∀ w, Calls Try.prog 96 #[.int .i64 K] w fun e w' => BitsPost bl w e w'
  len : bl.length = cnt cs
  ok : ∀ l, FitL K cs l → ∀ (i : Nat) (s x : Int), bl[i]? = some s → l[i]? = some x → BitOk s x
  forms : ∀ l b o c w, FitL K cs l → (∀ j u, (u64C l)[j]? = some u → w.cell? ⟨b, o + j, none⟩ = some u) → Forms K (.slice (some ⟨b, o, none⟩) l.length c) (emitAt cs l 0) w
  nums : K ≠ 4 → ∀ l, FitL K cs l → Nums K (emitAt cs l 0) l
  pos : 0 < cnt cs

theorem kd0 : Kd 0 ⟨#[49, 112, 50, 52, 52, 52]⟩ [49, 112, 50, 52, 52, 52] [8, 16, 33, 32, 32] := by
  have hcn : cnt [49, 112, 50, 52, 52, 52] = 5 := by decide
  have he : ∀ a0 a1 a2 a3 a4 : Int, emitAt [49, 112, 50, 52, 52, 52] [a0, a1, a2, a3, a4] 0 = lowB a0 1 ++ [0] ++ lowB a1 2 ++ lowB a2 4 ++ lowB a3 4 ++ lowB a4 4 := fun a0 a1 a2 a3 a4 => by simp [emitAt]
  have hl : ∀ a0 a1 a2 a3 a4 : Int, (lowB a0 1 ++ [0] ++ lowB a1 2 ++ lowB a2 4 ++ lowB a3 4 ++ lowB a4 4).length = 16 := fun a0 a1 a2 a3 a4 => by simp
  have hop : ∀ l, FitL 0 [49, 112, 50, 52, 52, 52] l → ∃ a0 a1 a2 a3 a4, l = [a0, a1, a2, a3, a4] ∧ (0 ≤ a0 ∧ a0 < 256) ∧ (0 ≤ a1 ∧ a1 < 65536) ∧ (0 ≤ a2 ∧ a2 < 2147483648) ∧ (0 ≤ a3 ∧ a3 < 4294967296) ∧ (0 ≤ a4 ∧ a4 < 4294967296) := by
    intro l hf
    have h0 := hf.1
    rw [hcn] at h0
    match l, h0 with
    | [a0, a1, a2, a3, a4], _ =>
      have h := hf.2.1
      simp [OkAt] at h
      have h2 := hf.2.2 rfl
      simp at h2
      exact ⟨a0, a1, a2, a3, a4, rfl, by omega, by omega, by omega, by omega, by omega⟩
  refine ⟨shp0, by decide, bits0_calls, by decide, ?_, ?_, ?_, by decide⟩
  · intro l hf i s x g1 g2
    obtain ⟨a0, a1, a2, a3, a4, rfl, h0, h1, h2, h3, h4⟩ := hop l hf
    match i, g1, g2 with
    | 0, g1, g2 => simp at g1 g2; subst g1 g2; exact ⟨by omega, by omega⟩
    | 1, g1, g2 => simp at g1 g2; subst g1 g2; exact ⟨by omega, by omega⟩
    | 2, g1, g2 => simp at g1 g2; subst g1 g2; exact ⟨by omega, by omega⟩
    | 3, g1, g2 => simp at g1 g2; subst g1 g2; exact ⟨by omega, by omega⟩
    | 4, g1, g2 => simp at g1 g2; subst g1 g2; exact ⟨by omega, by omega⟩
    | i + 5, g1, _ => simp at g1
  · intro l b o c w hf hc W hW
    obtain ⟨a0, a1, a2, a3, a4, rfl, h0, h1, h2, h3, h4⟩ := hop l hf
    rw [he, hl]
    exact form0_calls b o c a0 a1 a2 a3 a4 W h0 h1 h2 h3 h4 (cells_one hW (hc 0 _ rfl)) (cells_one hW (hc 1 _ rfl)) (cells_one hW (hc 2 _ rfl)) (cells_one hW (hc 3 _ rfl)) (cells_one hW (hc 4 _ rfl))
  · intro _ l hf b o c W hlc hc
    obtain ⟨a0, a1, a2, a3, a4, rfl, h0, h1, h2, h3, h4⟩ := hop l hf
    rw [he] at hc
    rw [he, hl] at hlc
    rw [he, hl]
    exact num0_calls b o c a0 a1 a2 a3 a4 W h0 h1 h2 h3 h4 hlc hc

theorem kd1 : Kd 1 ⟨#[49, 49, 49, 49, 52]⟩ [49, 49, 49, 49, 52] [8, 8, 8, 8, 32] := by
  have hcn : cnt [49, 49, 49, 49, 52] = 5 := by decide
  have he : ∀ a0 a1 a2 a3 a4 : Int, emitAt [49, 49, 49, 49, 52] [a0, a1, a2, a3, a4] 0 = lowB a0 1 ++ lowB a1 1 ++ lowB a2 1 ++ lowB a3 1 ++ lowB a4 4 := fun a0 a1 a2 a3 a4 => by simp [emitAt]
  have hl : ∀ a0 a1 a2 a3 a4 : Int, (lowB a0 1 ++ lowB a1 1 ++ lowB a2 1 ++ lowB a3 1 ++ lowB a4 4).length = 8 := fun a0 a1 a2 a3 a4 => by simp
  have hop : ∀ l, FitL 1 [49, 49, 49, 49, 52] l → ∃ a0 a1 a2 a3 a4, l = [a0, a1, a2, a3, a4] ∧ (0 ≤ a0 ∧ a0 < 256) ∧ (0 ≤ a1 ∧ a1 < 256) ∧ (0 ≤ a2 ∧ a2 < 256) ∧ (0 ≤ a3 ∧ a3 < 256) ∧ (0 ≤ a4 ∧ a4 < 4294967296) := by
    intro l hf
    have h0 := hf.1
    rw [hcn] at h0
    match l, h0 with
    | [a0, a1, a2, a3, a4], _ =>
      have h := hf.2.1
      simp [OkAt] at h
      exact ⟨a0, a1, a2, a3, a4, rfl, by omega, by omega, by omega, by omega, by omega⟩
  refine ⟨shp1, by decide, bits1_calls, by decide, ?_, ?_, ?_, by decide⟩
  · intro l hf i s x g1 g2
    obtain ⟨a0, a1, a2, a3, a4, rfl, h0, h1, h2, h3, h4⟩ := hop l hf
    match i, g1, g2 with
    | 0, g1, g2 => simp at g1 g2; subst g1 g2; exact ⟨by omega, by omega⟩
    | 1, g1, g2 => simp at g1 g2; subst g1 g2; exact ⟨by omega, by omega⟩
    | 2, g1, g2 => simp at g1 g2; subst g1 g2; exact ⟨by omega, by omega⟩
    | 3, g1, g2 => simp at g1 g2; subst g1 g2; exact ⟨by omega, by omega⟩
    | 4, g1, g2 => simp at g1 g2; subst g1 g2; exact ⟨by omega, by omega⟩
    | i + 5, g1, _ => simp at g1
  · intro l b o c w hf hc W hW
    obtain ⟨a0, a1, a2, a3, a4, rfl, h0, h1, h2, h3, h4⟩ := hop l hf
    rw [he, hl]
    exact form1_calls b o c a0 a1 a2 a3 a4 W h0 h1 h2 h3 h4 (cells_one hW (hc 0 _ rfl)) (cells_one hW (hc 1 _ rfl)) (cells_one hW (hc 2 _ rfl)) (cells_one hW (hc 3 _ rfl)) (cells_one hW (hc 4 _ rfl))
  · intro _ l hf b o c W hlc hc
    obtain ⟨a0, a1, a2, a3, a4, rfl, h0, h1, h2, h3, h4⟩ := hop l hf
    rw [he] at hc
    rw [he, hl] at hlc
    rw [he, hl]
    exact num1_calls b o c a0 a1 a2 a3 a4 W h0 h1 h2 h3 h4 hlc hc

theorem kd2 : Kd 2 ⟨#[52, 52, 52, 52]⟩ [52, 52, 52, 52] [32, 32, 32, 32] := by
  have hcn : cnt [52, 52, 52, 52] = 4 := by decide
  have he : ∀ a0 a1 a2 a3 : Int, emitAt [52, 52, 52, 52] [a0, a1, a2, a3] 0 = lowB a0 4 ++ lowB a1 4 ++ lowB a2 4 ++ lowB a3 4 := fun a0 a1 a2 a3 => by simp [emitAt]
  have hl : ∀ a0 a1 a2 a3 : Int, (lowB a0 4 ++ lowB a1 4 ++ lowB a2 4 ++ lowB a3 4).length = 16 := fun a0 a1 a2 a3 => by simp
  have hop : ∀ l, FitL 2 [52, 52, 52, 52] l → ∃ a0 a1 a2 a3, l = [a0, a1, a2, a3] ∧ (0 ≤ a0 ∧ a0 < 4294967296) ∧ (0 ≤ a1 ∧ a1 < 4294967296) ∧ (0 ≤ a2 ∧ a2 < 4294967296) ∧ (0 ≤ a3 ∧ a3 < 4294967296) := by
    intro l hf
    have h0 := hf.1
    rw [hcn] at h0
    match l, h0 with
    | [a0, a1, a2, a3], _ =>
      have h := hf.2.1
      simp [OkAt] at h
      exact ⟨a0, a1, a2, a3, rfl, by omega, by omega, by omega, by omega⟩
  refine ⟨shp2, by decide, bits2_calls, by decide, ?_, ?_, ?_, by decide⟩
  · intro l hf i s x g1 g2
    obtain ⟨a0, a1, a2, a3, rfl, h0, h1, h2, h3⟩ := hop l hf
    match i, g1, g2 with
    | 0, g1, g2 => simp at g1 g2; subst g1 g2; exact ⟨by omega, by omega⟩
    | 1, g1, g2 => simp at g1 g2; subst g1 g2; exact ⟨by omega, by omega⟩
    | 2, g1, g2 => simp at g1 g2; subst g1 g2; exact ⟨by omega, by omega⟩
    | 3, g1, g2 => simp at g1 g2; subst g1 g2; exact ⟨by omega, by omega⟩
    | i + 4, g1, _ => simp at g1
  · intro l b o c w hf hc W hW
    obtain ⟨a0, a1, a2, a3, rfl, h0, h1, h2, h3⟩ := hop l hf
    rw [he, hl]
    exact form2_calls b o c a0 a1 a2 a3 W h0 h1 h2 h3 (cells_one hW (hc 0 _ rfl)) (cells_one hW (hc 1 _ rfl)) (cells_one hW (hc 2 _ rfl)) (cells_one hW (hc 3 _ rfl))
  · intro _ l hf b o c W hlc hc
    obtain ⟨a0, a1, a2, a3, rfl, h0, h1, h2, h3⟩ := hop l hf
    rw [he] at hc
    rw [he, hl] at hlc
    rw [he, hl]
    exact num2_calls b o c a0 a1 a2 a3 W h0 h1 h2 h3 hlc hc

theorem kd3 : Kd 3 ⟨#[49, 49, 49, 49, 49, 49, 49, 49, 52]⟩ [49, 49, 49, 49, 49, 49, 49, 49, 52] [8, 8, 8, 8, 8, 8, 8, 8, 32] := by
  have hcn : cnt [49, 49, 49, 49, 49, 49, 49, 49, 52] = 9 := by decide
  have he : ∀ a0 a1 a2 a3 a4 a5 a6 a7 a8 : Int, emitAt [49, 49, 49, 49, 49, 49, 49, 49, 52] [a0, a1, a2, a3, a4, a5, a6, a7, a8] 0 = lowB a0 1 ++ lowB a1 1 ++ lowB a2 1 ++ lowB a3 1 ++ lowB a4 1 ++ lowB a5 1 ++ lowB a6 1 ++ lowB a7 1 ++ lowB a8 4 := fun a0 a1 a2 a3 a4 a5 a6 a7 a8 => by simp [emitAt]
  have hl : ∀ a0 a1 a2 a3 a4 a5 a6 a7 a8 : Int, (lowB a0 1 ++ lowB a1 1 ++ lowB a2 1 ++ lowB a3 1 ++ lowB a4 1 ++ lowB a5 1 ++ lowB a6 1 ++ lowB a7 1 ++ lowB a8 4).length = 12 := fun a0 a1 a2 a3 a4 a5 a6 a7 a8 => by simp
  have hop : ∀ l, FitL 3 [49, 49, 49, 49, 49, 49, 49, 49, 52] l → ∃ a0 a1 a2 a3 a4 a5 a6 a7 a8, l = [a0, a1, a2, a3, a4, a5, a6, a7, a8] ∧ (0 ≤ a0 ∧ a0 < 256) ∧ (0 ≤ a1 ∧ a1 < 256) ∧ (0 ≤ a2 ∧ a2 < 256) ∧ (0 ≤ a3 ∧ a3 < 256) ∧ (0 ≤ a4 ∧ a4 < 256) ∧ (0 ≤ a5 ∧ a5 < 256) ∧ (0 ≤ a6 ∧ a6 < 256) ∧ (0 ≤ a7 ∧ a7 < 256) ∧ (0 ≤ a8 ∧ a8 < 4294967296) := by
    intro l hf
    have h0 := hf.1
    rw [hcn] at h0
    match l, h0 with
    | [a0, a1, a2, a3, a4, a5, a6, a7, a8], _ =>
      have h := hf.2.1
      simp [OkAt] at h
      exact ⟨a0, a1, a2, a3, a4, a5, a6, a7, a8, rfl, by omega, by omega, by omega, by omega, by omega, by omega, by omega, by omega, by omega⟩
  refine ⟨shp3, by decide, bits3_calls, by decide, ?_, ?_, ?_, by decide⟩
  · intro l hf i s x g1 g2
    obtain ⟨a0, a1, a2, a3, a4, a5, a6, a7, a8, rfl, h0, h1, h2, h3, h4, h5, h6, h7, h8⟩ := hop l hf
    match i, g1, g2 with
    | 0, g1, g2 => simp at g1 g2; subst g1 g2; exact ⟨by omega, by omega⟩
    | 1, g1, g2 => simp at g1 g2; subst g1 g2; exact ⟨by omega, by omega⟩
    | 2, g1, g2 => simp at g1 g2; subst g1 g2; exact ⟨by omega, by omega⟩
    | 3, g1, g2 => simp at g1 g2; subst g1 g2; exact ⟨by omega, by omega⟩
    | 4, g1, g2 => simp at g1 g2; subst g1 g2; exact ⟨by omega, by omega⟩
    | 5, g1, g2 => simp at g1 g2; subst g1 g2; exact ⟨by omega, by omega⟩
    | 6, g1, g2 => simp at g1 g2; subst g1 g2; exact ⟨by omega, by omega⟩
    | 7, g1, g2 => simp at g1 g2; subst g1 g2; exact ⟨by omega, by omega⟩
    | 8, g1, g2 => simp at g1 g2; subst g1 g2; exact ⟨by omega, by omega⟩
    | i + 9, g1, _ => simp at g1
  · intro l b o c w hf hc W hW
    obtain ⟨a0, a1, a2, a3, a4, a5, a6, a7, a8, rfl, h0, h1, h2, h3, h4, h5, h6, h7, h8⟩ := hop l hf
    rw [he, hl]
    exact form3_calls b o c a0 a1 a2 a3 a4 a5 a6 a7 a8 W h0 h1 h2 h3 h4 h5 h6 h7 h8 (cells_one hW (hc 0 _ rfl)) (cells_one hW (hc 1 _ rfl)) (cells_one hW (hc 2 _ rfl)) (cells_one hW (hc 3 _ rfl)) (cells_one hW (hc 4 _ rfl)) (cells_one hW (hc 5 _ rfl)) (cells_one hW (hc 6 _ rfl)) (cells_one hW (hc 7 _ rfl)) (cells_one hW (hc 8 _ rfl))
  · intro _ l hf b o c W hlc hc
    obtain ⟨a0, a1, a2, a3, a4, a5, a6, a7, a8, rfl, h0, h1, h2, h3, h4, h5, h6, h7, h8⟩ := hop l hf
    rw [he] at hc
    rw [he, hl] at hlc
    rw [he, hl]
    exact num3_calls b o c a0 a1 a2 a3 a4 a5 a6 a7 a8 W h0 h1 h2 h3 h4 h5 h6 h7 h8 hlc hc

theorem kd4 : Kd 4 ⟨#[49, 112, 112, 112]⟩ [49, 112, 112, 112] [8] := by
  have hcn : cnt [49, 112, 112, 112] = 1 := by decide
  have he : ∀ a0 : Int, emitAt [49, 112, 112, 112] [a0] 0 = lowB a0 1 ++ [0, 0, 0] := fun a0 => by simp [emitAt]
  have hl : ∀ a0 : Int, (lowB a0 1 ++ [0, 0, 0]).length = 4 := fun a0 => by simp
  have hop : ∀ l, FitL 4 [49, 112, 112, 112] l → ∃ a0, l = [a0] ∧ (0 ≤ a0 ∧ a0 < 256) := by
    intro l hf
    have h0 := hf.1
    rw [hcn] at h0
    match l, h0 with
    | [a0], _ =>
      have h := hf.2.1
      simp [OkAt] at h
      exact ⟨a0, rfl, by omega⟩
  refine ⟨shp4, by decide, bits4_calls, by decide, ?_, ?_, ?_, by decide⟩
  · intro l hf i s x g1 g2
    obtain ⟨a0, rfl, h0⟩ := hop l hf
    match i, g1, g2 with
    | 0, g1, g2 => simp at g1 g2; subst g1 g2; exact ⟨by omega, by omega⟩
    | i + 1, g1, _ => simp at g1
  · intro l b o c w hf hc W hW
    obtain ⟨a0, rfl, h0⟩ := hop l hf
    rw [he, hl]
    exact form4_calls b o c a0 W h0 (cells_one hW (hc 0 _ rfl))
  · intro h; exact absurd rfl h

theorem kd5 : Kd 5 ⟨#[49, 49, 112, 112]⟩ [49, 49, 112, 112] [8, 8] := by
  have hcn : cnt [49, 49, 112, 112] = 2 := by decide
  have he : ∀ a0 a1 : Int, emitAt [49, 49, 112, 112] [a0, a1] 0 = lowB a0 1 ++ lowB a1 1 ++ [0, 0] := fun a0 a1 => by simp [emitAt]
  have hl : ∀ a0 a1 : Int, (lowB a0 1 ++ lowB a1 1 ++ [0, 0]).length = 4 := fun a0 a1 => by simp
  have hop : ∀ l, FitL 5 [49, 49, 112, 112] l → ∃ a0 a1, l = [a0, a1] ∧ (0 ≤ a0 ∧ a0 < 256) ∧ (0 ≤ a1 ∧ a1 < 256) := by
    intro l hf
    have h0 := hf.1
    rw [hcn] at h0
    match l, h0 with
    | [a0, a1], _ =>
      have h := hf.2.1
      simp [OkAt] at h
      exact ⟨a0, a1, rfl, by omega, by omega⟩
  refine ⟨shp5, by decide, bits5_calls, by decide, ?_, ?_, ?_, by decide⟩
  · intro l hf i s x g1 g2
    obtain ⟨a0, a1, rfl, h0, h1⟩ := hop l hf
    match i, g1, g2 with
    | 0, g1, g2 => simp at g1 g2; subst g1 g2; exact ⟨by omega, by omega⟩
    | 1, g1, g2 => simp at g1 g2; subst g1 g2; exact ⟨by omega, by omega⟩
    | i + 2, g1, _ => simp at g1
  · intro l b o c w hf hc W hW
    obtain ⟨a0, a1, rfl, h0, h1⟩ := hop l hf
    rw [he, hl]
    exact form5_calls b o c a0 a1 W h0 h1 (cells_one hW (hc 0 _ rfl)) (cells_one hW (hc 1 _ rfl))
  · intro _ l hf b o c W hlc hc
    obtain ⟨a0, a1, rfl, h0, h1⟩ := hop l hf
    rw [he] at hc
    rw [he, hl] at hlc
    rw [he, hl]
    exact num5_calls b o c a0 a1 W h0 h1 hlc hc

theorem kd6 : Kd 6 ⟨#[52, 52, 52, 52, 50, 50, 52]⟩ [52, 52, 52, 52, 50, 50, 52] [32, 32, 32, 32, 16, 16, 32] := by
  have hcn : cnt [52, 52, 52, 52, 50, 50, 52] = 7 := by decide
  have he : ∀ a0 a1 a2 a3 a4 a5 a6 : Int, emitAt [52, 52, 52, 52, 50, 50, 52] [a0, a1, a2, a3, a4, a5, a6] 0 = lowB a0 4 ++ lowB a1 4 ++ lowB a2 4 ++ lowB a3 4 ++ lowB a4 2 ++ lowB a5 2 ++ lowB a6 4 := fun a0 a1 a2 a3 a4 a5 a6 => by simp [emitAt]
  have hl : ∀ a0 a1 a2 a3 a4 a5 a6 : Int, (lowB a0 4 ++ lowB a1 4 ++ lowB a2 4 ++ lowB a3 4 ++ lowB a4 2 ++ lowB a5 2 ++ lowB a6 4).length = 24 := fun a0 a1 a2 a3 a4 a5 a6 => by simp
  have hop : ∀ l, FitL 6 [52, 52, 52, 52, 50, 50, 52] l → ∃ a0 a1 a2 a3 a4 a5 a6, l = [a0, a1, a2, a3, a4, a5, a6] ∧ (0 ≤ a0 ∧ a0 < 4294967296) ∧ (0 ≤ a1 ∧ a1 < 4294967296) ∧ (0 ≤ a2 ∧ a2 < 4294967296) ∧ (0 ≤ a3 ∧ a3 < 4294967296) ∧ (0 ≤ a4 ∧ a4 < 65536) ∧ (0 ≤ a5 ∧ a5 < 65536) ∧ (0 ≤ a6 ∧ a6 < 4294967296) := by
    intro l hf
    have h0 := hf.1
    rw [hcn] at h0
    match l, h0 with
    | [a0, a1, a2, a3, a4, a5, a6], _ =>
      have h := hf.2.1
      simp [OkAt] at h
      exact ⟨a0, a1, a2, a3, a4, a5, a6, rfl, by omega, by omega, by omega, by omega, by omega, by omega, by omega⟩
  refine ⟨shp6, by decide, bits6_calls, by decide, ?_, ?_, ?_, by decide⟩
  · intro l hf i s x g1 g2
    obtain ⟨a0, a1, a2, a3, a4, a5, a6, rfl, h0, h1, h2, h3, h4, h5, h6⟩ := hop l hf
    match i, g1, g2 with
    | 0, g1, g2 => simp at g1 g2; subst g1 g2; exact ⟨by omega, by omega⟩
    | 1, g1, g2 => simp at g1 g2; subst g1 g2; exact ⟨by omega, by omega⟩
    | 2, g1, g2 => simp at g1 g2; subst g1 g2; exact ⟨by omega, by omega⟩
    | 3, g1, g2 => simp at g1 g2; subst g1 g2; exact ⟨by omega, by omega⟩
    | 4, g1, g2 => simp at g1 g2; subst g1 g2; exact ⟨by omega, by omega⟩
    | 5, g1, g2 => simp at g1 g2; subst g1 g2; exact ⟨by omega, by omega⟩
    | 6, g1, g2 => simp at g1 g2; subst g1 g2; exact ⟨by omega, by omega⟩
    | i + 7, g1, _ => simp at g1
  · intro l b o c w hf hc W hW
    obtain ⟨a0, a1, a2, a3, a4, a5, a6, rfl, h0, h1, h2, h3, h4, h5, h6⟩ := hop l hf
    rw [he, hl]
    exact form6_calls b o c a0 a1 a2 a3 a4 a5 a6 W h0 h1 h2 h3 h4 h5 h6 (cells_one hW (hc 0 _ rfl)) (cells_one hW (hc 1 _ rfl)) (cells_one hW (hc 2 _ rfl)) (cells_one hW (hc 3 _ rfl)) (cells_one hW (hc 4 _ rfl)) (cells_one hW (hc 5 _ rfl)) (cells_one hW (hc 6 _ rfl))
  · intro _ l hf b o c W hlc hc
    obtain ⟨a0, a1, a2, a3, a4, a5, a6, rfl, h0, h1, h2, h3, h4, h5, h6⟩ := hop l hf
    rw [he] at hc
    rw [he, hl] at hlc
    rw [he, hl]
    exact num6_calls b o c a0 a1 a2 a3 a4 a5 a6 W h0 h1 h2 h3 h4 h5 h6 hlc hc

theorem kd7 : Kd 7 ⟨#[50, 50]⟩ [50, 50] [16, 16] := by
  have hcn : cnt [50, 50] = 2 := by decide
  have he : ∀ a0 a1 : Int, emitAt [50, 50] [a0, a1] 0 = lowB a0 2 ++ lowB a1 2 := fun a0 a1 => by simp [emitAt]
  have hl : ∀ a0 a1 : Int, (lowB a0 2 ++ lowB a1 2).length = 4 := fun a0 a1 => by simp
  have hop : ∀ l, FitL 7 [50, 50] l → ∃ a0 a1, l = [a0, a1] ∧ (0 ≤ a0 ∧ a0 < 65536) ∧ (0 ≤ a1 ∧ a1 < 65536) := by
    intro l hf
    have h0 := hf.1
    rw [hcn] at h0
    match l, h0 with
    | [a0, a1], _ =>
      have h := hf.2.1
      simp [OkAt] at h
      exact ⟨a0, a1, rfl, by omega, by omega⟩
  refine ⟨shp7, by decide, bits7_calls, by decide, ?_, ?_, ?_, by decide⟩
  · intro l hf i s x g1 g2
    obtain ⟨a0, a1, rfl, h0, h1⟩ := hop l hf
    match i, g1, g2 with
    | 0, g1, g2 => simp at g1 g2; subst g1 g2; exact ⟨by omega, by omega⟩
    | 1, g1, g2 => simp at g1 g2; subst g1 g2; exact ⟨by omega, by omega⟩
    | i + 2, g1, _ => simp at g1
  · intro l b o c w hf hc W hW
    obtain ⟨a0, a1, rfl, h0, h1⟩ := hop l hf
    rw [he, hl]
    exact form7_calls b o c a0 a1 W h0 h1 (cells_one hW (hc 0 _ rfl)) (cells_one hW (hc 1 _ rfl))
  · intro _ l hf b o c W hlc hc
    obtain ⟨a0, a1, rfl, h0, h1⟩ := hop l hf
    rw [he] at hc
    rw [he, hl] at hlc
    rw [he, hl]
    exact num7_calls b o c a0 a1 W h0 h1 hlc hc

theorem kd8 : Kd 8 ⟨#[52, 52]⟩ [52, 52] [32, 32] := by
  have hcn : cnt [52, 52] = 2 := by decide
  have he : ∀ a0 a1 : Int, emitAt [52, 52] [a0, a1] 0 = lowB a0 4 ++ lowB a1 4 := fun a0 a1 => by simp [emitAt]
  have hl : ∀ a0 a1 : Int, (lowB a0 4 ++ lowB a1 4).length = 8 := fun a0 a1 => by simp
  have hop : ∀ l, FitL 8 [52, 52] l → ∃ a0 a1, l = [a0, a1] ∧ (0 ≤ a0 ∧ a0 < 4294967296) ∧ (0 ≤ a1 ∧ a1 < 4294967296) := by
    intro l hf
    have h0 := hf.1
    rw [hcn] at h0
    match l, h0 with
    | [a0, a1], _ =>
      have h := hf.2.1
      simp [OkAt] at h
      exact ⟨a0, a1, rfl, by omega, by omega⟩
  refine ⟨shp8, by decide, bits8_calls, by decide, ?_, ?_, ?_, by decide⟩
  · intro l hf i s x g1 g2
    obtain ⟨a0, a1, rfl, h0, h1⟩ := hop l hf
    match i, g1, g2 with
    | 0, g1, g2 => simp at g1 g2; subst g1 g2; exact ⟨by omega, by omega⟩
    | 1, g1, g2 => simp at g1 g2; subst g1 g2; exact ⟨by omega, by omega⟩
    | i + 2, g1, _ => simp at g1
  · intro l b o c w hf hc W hW
    obtain ⟨a0, a1, rfl, h0, h1⟩ := hop l hf
    rw [he, hl]
    exact form8_calls b o c a0 a1 W h0 h1 (cells_one hW (hc 0 _ rfl)) (cells_one hW (hc 1 _ rfl))
  · intro _ l hf b o c W hlc hc
    obtain ⟨a0, a1, rfl, h0, h1⟩ := hop l hf
    rw [he] at hc
    rw [he, hl] at hlc
    rw [he, hl]
    exact num8_calls b o c a0 a1 W h0 h1 hlc hc

end Go.Proofs.Ytbogknjgjbhagaa
