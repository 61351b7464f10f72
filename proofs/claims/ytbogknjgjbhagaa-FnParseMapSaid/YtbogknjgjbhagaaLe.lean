/- Numbers out of bytes, the lowest first, and into bytes. -/
import Derived.Test.YtbogknjgjbhagaaBe
namespace Go.Proofs.Ytbogknjgjbhagaa
open Go.RowKit

/-- The number whose bytes these are, the lowest first. -/
def leV : List Int → Int
  | [] => 0
  | x :: r => leV r * 256 + x

def AllB (l : List Int) : Prop := ∀ x ∈ l, 0 ≤ x ∧ x < 256

theorem leV_bound : ∀ (l : List Int), AllB l → 0 ≤ leV l ∧ leV l < ((256 ^ l.length : Nat) : Int)
  | [], _ => by simp [leV]
  | x :: r, h => by
    have h1 := h x (by simp)
    have h2 := leV_bound r (fun y hy => h y (by simp [hy]))
    have e : 256 ^ (x :: r).length = 256 ^ r.length * 256 := by rw [List.length_cons, Nat.pow_succ]
    rw [e]
    generalize 256 ^ r.length = q at h2
    simp only [leV]
    omega

theorem leV_lt (l : List Int) (h : AllB l) (k : Nat) (hl : l.length ≤ k) : 0 ≤ leV l ∧ leV l < ((256 ^ k : Nat) : Int) := by
  have h1 := leV_bound l h
  have h2 : (256 : Nat) ^ l.length ≤ 256 ^ k := Nat.pow_le_pow_right (by decide) hl
  generalize 256 ^ l.length = q at *
  generalize 256 ^ k = q2 at *
  omega

theorem leV_lt7 (l : List Int) (h : AllB l) (hl : l.length ≤ 7) : 0 ≤ leV l ∧ leV l < 72057594037927936 := leV_lt l h 7 hl
theorem leV_lt8 (l : List Int) (h : AllB l) (hl : l.length ≤ 8) : 0 ≤ leV l ∧ leV l < 18446744073709551616 := leV_lt l h 8 hl
theorem leV_lt4 (l : List Int) (h : AllB l) (hl : l.length ≤ 4) : 0 ≤ leV l ∧ leV l < 4294967296 := leV_lt l h 4 hl
theorem leV_lt2 (l : List Int) (h : AllB l) (hl : l.length ≤ 2) : 0 ≤ leV l ∧ leV l < 65536 := leV_lt l h 2 hl
theorem leV_lt1 (l : List Int) (h : AllB l) (hl : l.length ≤ 1) : 0 ≤ leV l ∧ leV l < 256 := leV_lt l h 1 hl

theorem or_u64 (v x : Int) (h : 0 ≤ v ∧ v < 72057594037927936) (hx : 0 ≤ x ∧ x < 256) : bits .or .u64 (v * 256) x = v * 256 + x := by
  obtain ⟨a, rfl⟩ := Int.eq_ofNat_of_zero_le h.1
  obtain ⟨b, rfl⟩ := Int.eq_ofNat_of_zero_le hx.1
  have e : (a : Int) * 256 = ((a * 256 : Nat) : Int) := by omega
  rw [e, u64_or _ _ (by omega) (by omega) (by omega) (by omega)]
  simp only [Int.toNat_natCast]
  rw [nat_join8 _ _ (by omega) (by omega)]
  omega

set_option maxHeartbeats 1000000 in
set_option maxRecDepth 100000 in
theorem getLE_calls (b o n c a k : Nat) (ai ki : Int) (l : List Int) (w : World) (hb : AllB l) (hk : l.length = k) (h8 : k ≤ 8) (hn : a + k ≤ n) (hmax : n ≤ 4611686018427387904) (ha : ai = (a : Int)) (hki : ki = (k : Int))
    (hc : ∀ j, j < k → w.cell? ⟨b, o + (a + j), none⟩ = some (.int .u8 (l.getD j 0))) :
    Calls Try.prog 120 #[.slice (some ⟨b, o, none⟩) n c, .int .i64 ai, .int .i64 ki] w fun e w' => e = .returned (.int .u64 (leV l)) ∧ w = w' := by
  subst ha
  subst hki
  have HC := Lib.hid hc
  have HB := Lib.hid hb
  have HK := Lib.hid hk
  clear hc hb hk
  go_enter Try.func120, Try.ntmps120
  go_wp2_with fail
  go_loop [6, 7] (fun v i => ∃ m : Int, -1 ≤ m ∧ m < (k : Int) ∧ i = .int .i64 m ∧ v = .int .u64 (leV (l.drop (m + 1).toNat))) (fun _ i => (intOf i + 1).toNat)
  case atStart => exact ⟨(k : Int) - 1, by omega, by omega, rfl, by rw [show ((k : Int) - 1 + 1).toNat = l.length from by have := HK.out; omega, List.drop_length]; rfl⟩
  case round =>
    obtain ⟨m, hm1, hm2, rfl, rfl⟩ := hrel
    by_cases h0 : 0 ≤ m
    · obtain ⟨p, rfl⟩ := Int.eq_ofNat_of_zero_le h0
      have hp : p < k := by omega
      obtain ⟨x, hx⟩ : ∃ x, x = l.getD p 0 := ⟨_, rfl⟩
      have hpl : p < l.length := by have := HK.out; omega
      have hxb : 0 ≤ x ∧ x < 256 := by
        rw [hx, List.getD_eq_getElem?_getD, List.getElem?_eq_getElem hpl]; exact HB.out _ (List.getElem_mem hpl)
      have hcell : w.cell? ⟨b, o + (a + p), none⟩ = some (.int .u8 x) := by rw [HC.out p hp, hx]
      obtain ⟨v, hv⟩ : ∃ v, v = leV (l.drop ((p : Int) + 1).toNat) := ⟨_, rfl⟩
      have hvb : 0 ≤ v ∧ v < 72057594037927936 := by
        rw [hv]
        exact leV_lt7 _ (fun y hy => HB.out y (List.mem_of_mem_drop hy)) (by simp; have := HK.out; omega)
      have hor : bits BinOp.or IntKind.u64 (v * 256) x = v * 256 + x := or_u64 v x hvb hxb
      have hstep : v * 256 + x = leV (l.drop p) := by
        rw [hv, hx, List.getD_eq_getElem?_getD, List.getElem?_eq_getElem hpl, show ((p : Int) + 1).toNat = p + 1 from by omega, List.drop_eq_getElem_cons hpl]; rfl
      rw [← hv]
      have HS := Lib.hid hstep
      clear hx hv hstep
      go_wp2_with fail
      go_round
      case rel => exact ⟨(p : Int) - 1, by omega, by omega, by go_num, by rw [show ((p : Int) - 1 + 1).toNat = p from by omega, HS.out]⟩
      case measure => simp [intOf]
    · have hm : m = -1 := by omega
      subst hm
      go_wp2_with fail
      go_ret
      exact ⟨rfl, rfl⟩

/-- Byte number i of a number, the lowest one first; the cells of a row behind k of them. -/
def byteLe (v : Int) (i : Nat) : Int := v / ((256 ^ i : Nat) : Int) % 256
def putB (xs : List Value) (p : Nat) (v : Int) (k : Nat) : List Value := (List.range k).foldl (fun ys i => ys.set (p + i) (.int .u8 (byteLe v i))) xs

theorem putB_succ (xs : List Value) (p : Nat) (v : Int) (k : Nat) : putB xs p v (k + 1) = (putB xs p v k).set (p + k) (.int .u8 (byteLe v k)) := by
  simp [putB, List.range_succ]

theorem byteLe_shift (v : Int) (m : Nat) : byteLe v m = v / 2 ^ (8 * m) % 256 := by
  unfold byteLe
  have e : ((256 ^ m : Nat) : Int) = 2 ^ (8 * m) := by
    rw [show (256 : Nat) = 2 ^ 8 from rfl, ← Nat.pow_mul]
    simp
  rw [e]

set_option maxHeartbeats 1000000 in
set_option maxRecDepth 100000 in
theorem putLE_calls (base g N cap o n c a k : Nat) (ai ki : Int) (xs : List Value) (v : Int) (w : World) (_hv : 0 ≤ v ∧ v < 18446744073709551616) (hown : w.ownsRow base 5 1 (.slice (some ⟨g, 0, none⟩) N cap) N xs)
    (h8 : k ≤ 8) (hn : a + k ≤ n) (hN : o + n ≤ N) (hmax : n ≤ 4611686018427387904) (ha : ai = (a : Int)) (hki : ki = (k : Int)) :
    Calls Try.prog 122 #[.slice (some ⟨g, o, none⟩) n c, .int .i64 ai, .int .i64 ki, .int .u64 v] w fun e w' => e = .returned (.tuple #[]) ∧
      w'.ownsRow base 5 1 (.slice (some ⟨g, 0, none⟩) N cap) N (putB xs (o + a) v k) ∧ w.grownBy w' (some g) := by
  subst ha
  subst hki
  have HO := Lib.hid hown
  clear hown
  go_enter Try.func122, Try.ntmps122
  go_wp2_with fail
  go_loopw [8] (fun i wr => ∃ m : Nat, m ≤ k ∧ i = .int .i64 m ∧ wr.ownsRow base 5 1 (.slice (some ⟨g, 0, none⟩) N cap) N (putB xs (o + a) v m) ∧ w.grownBy wr (some g)) (fun i _ => k - (intOf i).toNat)
  case atStart => exact ⟨0, by omega, rfl, HO.out, World.grownBy.refl _ _⟩
  case round =>
    obtain ⟨m, hm, rfl, hown, hg⟩ := hrel
    by_cases hlt : m < k
    · have hl : (putB xs (o + a) v m).length = N := by simpa using hown.1
      obtain ⟨u, hu⟩ : ∃ u, wr.cell? ⟨g, o + (a + m), none⟩ = some u := by
        rw [hown.cellAt _ (by omega)]; exact ⟨_, List.getElem?_eq_getElem (by omega)⟩
      have hf := hown.frozenAt (o + (a + m))
      have HW := Lib.hid hown
      have HG := Lib.hid hg
      clear hown hg hl
      go_wp2_with fail
      go_roundw
      case rel =>
        rw [← byteLe_shift]
        refine ⟨m + 1, by omega, by go_num, ?_, grown_trans HG.out (HW.out.stored _ _).2⟩
        rw [putB_succ, Nat.add_assoc]
        exact (HW.out.stored _ _).1
      case measure => simp [intOf]; omega
    · have hmk : m = k := by omega
      subst hmk
      go_wp2_with fail
      go_end0
      exact ⟨rfl, hown, hg⟩

theorem be32_bound (x0 x1 x2 x3 : Int) (h0 : 0 ≤ x0 ∧ x0 < 256) (h1 : 0 ≤ x1 ∧ x1 < 256) (h2 : 0 ≤ x2 ∧ x2 < 256) (h3 : 0 ≤ x3 ∧ x3 < 256) : 0 ≤ be32 x0 x1 x2 x3 ∧ be32 x0 x1 x2 x3 < 4294967296 := by unfold be32; omega

theorem or_32_64 (lo hi : Int) (h : 0 ≤ lo ∧ lo < 4294967296) (h2 : 0 ≤ hi ∧ hi < 4294967296) : bits .or .u64 lo (hi * 4294967296) = hi * 4294967296 + lo := by
  obtain ⟨a, rfl⟩ := Int.eq_ofNat_of_zero_le h.1
  obtain ⟨b, rfl⟩ := Int.eq_ofNat_of_zero_le h2.1
  have e : (b : Int) * 4294967296 = ((b * 4294967296 : Nat) : Int) := by omega
  rw [e, u64_or _ _ (by omega) (by omega) (by omega) (by omega)]
  simp only [Int.toNat_natCast]
  rw [nat_join32' _ _ (by omega) (by omega)]
  omega

/-- Four cells that hold bytes, the highest first. -/
def Be4 (w : World) (b o : Nat) (y : Int) : Prop := ∃ x0 x1 x2 x3 : Int, y = be32 x0 x1 x2 x3 ∧ (0 ≤ x0 ∧ x0 < 256) ∧ (0 ≤ x1 ∧ x1 < 256) ∧ (0 ≤ x2 ∧ x2 < 256) ∧ (0 ≤ x3 ∧ x3 < 256) ∧
  w.cell? ⟨b, o, none⟩ = some (.int .u8 x0) ∧ w.cell? ⟨b, o + 1, none⟩ = some (.int .u8 x1) ∧ w.cell? ⟨b, o + 2, none⟩ = some (.int .u8 x2) ∧ w.cell? ⟨b, o + 3, none⟩ = some (.int .u8 x3)

theorem beUint32_any (b o n c m : Nat) (y : Int) (w : World) (hn : 4 ≤ n) (h : Be4 w b o y) :
    Calls Try.prog 81 #[.slice (some ⟨b, o, none⟩) n c] (w.drewN m) fun e w' => e = .returned (.int .u32 y) ∧ ∃ m', w' = w.drewN m' := by
  obtain ⟨x0, x1, x2, x3, rfl, h0, h1, h2, h3, c0, c1, c2, c3⟩ := h
  exact (beUint32_calls b o n c x0 x1 x2 x3 (w.drewN m) hn h0 h1 h2 h3 c0 c1 c2 c3).mono fun e w' ⟨he, k, hk⟩ => ⟨he, m + k, by rw [hk, World.drewN_drewN]⟩

set_option maxHeartbeats 1000000 in
set_option maxRecDepth 100000 in
theorem beUint64_calls (b o n c m : Nat) (hi lo : Int) (u : Value) (w : World) (hn : 8 ≤ n) (hc : n ≤ c) (h1 : Be4 w b o hi) (h2 : Be4 w b (o + 4) lo) (hu : w.cell? ⟨b, o + 7, none⟩ = some u) :
    Calls Try.prog 85 #[.slice (some ⟨b, o, none⟩) n c] (w.drewN m) fun e w' => e = .returned (.int .u64 (hi * 4294967296 + lo)) ∧ ∃ m', w' = w.drewN m' := by
  have bh : 0 ≤ hi ∧ hi < 4294967296 := by obtain ⟨x0, x1, x2, x3, rfl, h0, h1, h2, h3, _⟩ := h1; exact be32_bound _ _ _ _ h0 h1 h2 h3
  have bl : 0 ≤ lo ∧ lo < 4294967296 := by obtain ⟨x0, x1, x2, x3, rfl, h0, h1, h2, h3, _⟩ := h2; exact be32_bound _ _ _ _ h0 h1 h2 h3
  have E := or_32_64 lo hi bl bh
  have i7 : (7 : Int) < (n : Int) := by omega
  have H1 := Lib.hid h1
  have H2 := Lib.hid h2
  clear h1 h2
  go_enter Try.func85, Try.ntmps85
  go_wp2_with fail
  refine (beUint32_any b (o + 4) (n - 4) (c - 4) m lo w (by omega) H2.out).mono ?_
  rintro e w' ⟨rfl, m1, rfl⟩
  go_wp2_with fail
  refine (beUint32_any b o n c m1 hi w (by omega) H1.out).mono ?_
  rintro e w' ⟨rfl, m2, rfl⟩
  go_wp2_with fail
  go_ret
  exact ⟨rfl, m2, rfl⟩

set_option maxHeartbeats 1000000 in
set_option maxRecDepth 100000 in
theorem leUint16_calls (b o n c : Nat) (l : List Int) (w : World) (hb : AllB l) (hk : l.length = 2) (hn : 2 ≤ n) (hmax : n ≤ 4611686018427387904) (hc : ∀ j, j < 2 → w.cell? ⟨b, o + j, none⟩ = some (.int .u8 (l.getD j 0))) :
    Calls Try.prog 88 #[.agg #[], .slice (some ⟨b, o, none⟩) n c] w fun e w' => e = .returned (.int .u16 (leV l)) ∧ Below w.heap.size w w' := by
  have i3 : (1 : Int) < (n : Int) := by omega
  have hc' : ∀ j, j < 2 → (w.alloc (.cells #[] 118)).cell? ⟨b, o + j, none⟩ = some (.int .u8 (l.getD j 0)) := fun j hj => by
    have h1 := hc j hj
    rw [(((Below.refl _ w).alloc (Nat.le_refl _) (.cells #[] 118)).cell (World.block_lt_of_cell? w _ h1))]
    exact h1
  have c3 := hc' 1 (by omega)
  have HB := leV_lt2 l hb (by omega)
  have HC := Lib.hid hc'
  have HAB := Lib.hid hb
  clear hc hc' hb
  go_enter Try.func88, Try.ntmps88
  go_wp2_with fail
  refine (getLE_calls b o n c 0 2 0 2 l _ HAB.out hk (by omega) (by omega) hmax rfl rfl (fun j hj => by rw [Nat.zero_add]; exact HC.out j hj)).mono ?_
  rintro e w' ⟨rfl, rfl⟩
  go_wp2_with fail
  go_ret
  exact ⟨rfl, (Below.refl _ w).alloc (Nat.le_refl _) _⟩

set_option maxHeartbeats 1000000 in
set_option maxRecDepth 100000 in
theorem leUint32_calls (b o n c : Nat) (l : List Int) (w : World) (hb : AllB l) (hk : l.length = 4) (hn : 4 ≤ n) (hmax : n ≤ 4611686018427387904) (hc : ∀ j, j < 4 → w.cell? ⟨b, o + j, none⟩ = some (.int .u8 (l.getD j 0))) :
    Calls Try.prog 84 #[.agg #[], .slice (some ⟨b, o, none⟩) n c] w fun e w' => e = .returned (.int .u32 (leV l)) ∧ Below w.heap.size w w' := by
  have i3 : (3 : Int) < (n : Int) := by omega
  have hc' : ∀ j, j < 4 → (w.alloc (.cells #[] 118)).cell? ⟨b, o + j, none⟩ = some (.int .u8 (l.getD j 0)) := fun j hj => by
    have h1 := hc j hj
    rw [(((Below.refl _ w).alloc (Nat.le_refl _) (.cells #[] 118)).cell (World.block_lt_of_cell? w _ h1))]
    exact h1
  have c3 := hc' 3 (by omega)
  have HB := leV_lt4 l hb (by omega)
  have HC := Lib.hid hc'
  have HAB := Lib.hid hb
  clear hc hc' hb
  go_enter Try.func84, Try.ntmps84
  go_wp2_with fail
  refine (getLE_calls b o n c 0 4 0 4 l _ HAB.out hk (by omega) (by omega) hmax rfl rfl (fun j hj => by rw [Nat.zero_add]; exact HC.out j hj)).mono ?_
  rintro e w' ⟨rfl, rfl⟩
  go_wp2_with fail
  go_ret
  exact ⟨rfl, (Below.refl _ w).alloc (Nat.le_refl _) _⟩

set_option maxHeartbeats 1000000 in
set_option maxRecDepth 100000 in
theorem leUint64_calls (b o n c : Nat) (l : List Int) (w : World) (hb : AllB l) (hk : l.length = 8) (hn : 8 ≤ n) (hmax : n ≤ 4611686018427387904) (hc : ∀ j, j < 8 → w.cell? ⟨b, o + j, none⟩ = some (.int .u8 (l.getD j 0))) :
    Calls Try.prog 86 #[.agg #[], .slice (some ⟨b, o, none⟩) n c] w fun e w' => e = .returned (.int .u64 (leV l)) ∧ Below w.heap.size w w' := by
  have i3 : (7 : Int) < (n : Int) := by omega
  have hc' : ∀ j, j < 8 → (w.alloc (.cells #[] 118)).cell? ⟨b, o + j, none⟩ = some (.int .u8 (l.getD j 0)) := fun j hj => by
    have h1 := hc j hj
    rw [(((Below.refl _ w).alloc (Nat.le_refl _) (.cells #[] 118)).cell (World.block_lt_of_cell? w _ h1))]
    exact h1
  have c3 := hc' 7 (by omega)
  have HB := leV_lt8 l hb (by omega)
  have HC := Lib.hid hc'
  have HAB := Lib.hid hb
  clear hc hc' hb
  go_enter Try.func86, Try.ntmps86
  go_wp2_with fail
  refine (getLE_calls b o n c 0 8 0 8 l _ HAB.out hk (by omega) (by omega) hmax rfl rfl (fun j hj => by rw [Nat.zero_add]; exact HC.out j hj)).mono ?_
  rintro e w' ⟨rfl, rfl⟩
  go_wp2_with fail
  go_ret
  exact ⟨rfl, (Below.refl _ w).alloc (Nat.le_refl _) _⟩

end Go.Proofs.Ytbogknjgjbhagaa
