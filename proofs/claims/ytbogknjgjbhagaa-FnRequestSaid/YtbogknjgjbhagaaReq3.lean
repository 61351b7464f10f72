/- The reference's bytes of a request. -/
import Derived.Test.YtbogknjgjbhagaaReq2
namespace Go.Proofs.Ytbogknjgjbhagaa
open Go.RowKit
set_option linter.unusedSimpArgs false

theorem app_own' (base : Nat) (A0 : Option Addr) (n c0 : Nat) (l : List Int) (A : Option Addr) (m c : Nat) (ys : List Int) (w : World) (N : Nat) (hN : n + m = N) (hown : w.ownsRow base 5 1 (.slice A0 n c0) n (bytesC l)) (hr : Rd w A (bytesC ys)) (hm : ys.length = m)
    (hA : A = none → m = 0) (hbig : n + m ≤ 1000000000) (hbase : base ≤ w.heap.size) :
    ∃ A' c' w', (Builtin.append_ #[31, 31] 31 #[.slice A0 n c0, .slice A m c]).run Try.prog w = .ok (.slice A' N c') w' ∧ w'.ownsRow base 5 1 (.slice A' N c') N (bytesC (l ++ ys)) ∧ Below base w w' := by
  subst hN
  exact app_own base A0 n c0 l A m c ys w hown hr hm hA hbig hbase

theorem trees_few : ∀ l : List Tree, l.length ≤ (attrsB l).length
  | [] => by simp
  | .node t d ks :: r => by
    have h1 := trees_few r
    have h2 := attrB_len t d ks
    rw [attrsB, List.length_append, List.length_cons]
    omega

set_option maxHeartbeats 4000000 in
set_option maxRecDepth 100000 in
theorem specReq_calls (t f s : Int) (A : Option Addr) (c : Nat) (l : List Tree) (Ar : Option Addr) (cr : Nat) (raw : List Int) (w : World) (hl : l ≠ [] → ∃ bb o, A = some ⟨bb, o, none⟩ ∧ TreesAt w bb o l) (hraw : BytesAt w (.slice Ar raw.length cr) raw)
    (hlen : (attrsB l).length ≤ 100000) (hr2 : raw.length ≤ 200) (ht : 0 ≤ t ∧ t < 65536) (hf : 0 ≤ f ∧ f < 65536) (hs : 0 ≤ s ∧ s < 4294967296) :
    Calls Try.prog 33 #[.int .i64 t, .int .i64 f, .int .u32 s, .slice A l.length c, .slice Ar raw.length cr] w fun e w' => ∃ v, e = .returned v ∧ w'.ownsRow w.heap.size 5 1 v (16 + (attrsB l ++ raw).length) (bytesC (reqB t f s (attrsB l ++ raw))) ∧ Below w.heap.size w w' := by
  have hfew := trees_few l
  have HL := Lib.hid hl
  have HRAW := Lib.hid hraw
  have HLEN := Lib.hid hlen
  clear hl hraw
  go_enter Try.func33, Try.ntmps33
  go_wp2_with fail
  go_loopw [11, 17] (fun v i wr => ∃ k : Nat, k ≤ l.length ∧ i = .int .i64 (k : Nat) ∧ Hid (wr.ownsRow w.heap.size 5 1 v (attrsB (l.take k)).length (bytesC (attrsB (l.take k)))) ∧ Hid (Below w.heap.size w wr)) (fun _ i _ => l.length - (intOf i).toNat)
  case atStart => exact ⟨0, Nat.zero_le _, rfl, World.ownsRow_nil _ _ _ _, Below.refl _ _⟩
  case round =>
    obtain ⟨k, hk, rfl, HO, HB⟩ := hrel
    have hbs := HB.out.size
    have hle := attrsB_take_le l k
    obtain ⟨A1, k1, rfl, hk1, hr1, hn1⟩ := Rd.of_own HO.out
    by_cases hlt : k < l.length
    · obtain ⟨bb, o, rfl, hTs⟩ := HL.out (by rintro rfl; simp at hlt)
      obtain ⟨ka, kb, kc, e0, e1, e2, hkT⟩ := TreesAt.get l bb o k hlt hTs
      obtain ⟨xt, xA, xn, xc, yA, yn, yc, rfl, rfl, rfl⟩ := TreeAt.shape hkT
      have f0 := cells_one HB.out e0
      have f1 := cells_one HB.out e1
      have f2 := cells_one HB.out e2
      have hkT2 := TreeAt.below HB.out _ _ _ _ hkT
      have hle2 := attrsB_take_le l (k + 1)
      have hsn : attrsB (l.take (k + 1)) = attrsB (l.take k) ++ attrB l[k] := by
        rw [List.take_succ_eq_append_getElem hlt, attrsB_append]; simp [attrsB]
      obtain ⟨T1, hT1⟩ : ∃ T1, T1 = l[k] := ⟨_, rfl⟩
      rw [← hT1] at hkT hkT2 hsn
      rw [hsn, List.length_append] at hle2
      have hne : 0 < l.length := by omega
      have HSN := Lib.hid hsn
      have HT2 := Lib.hid hkT2
      obtain ⟨n, hn⟩ : ∃ n, n = (attrsB (l.take k)).length := ⟨_, rfl⟩
      rw [← hn] at HO hle hle2 hk1
      rw [← hn]
      obtain ⟨q, hq⟩ : ∃ q, q = (attrB T1).length := ⟨_, rfl⟩
      rw [← hq] at hle2
      have HN := Lib.hid hn
      have HQ := Lib.hid hq
      clear hkT hkT2 hT1 hTs e0 e1 e2 hsn hr1 hn1 hn hq
      go_wp2_with fail
      obtain ⟨W2, hW2⟩ : ∃ W2, W2 = wr.alloc (.cells #[.int .i64 xt, .slice xA xn xc, .slice yA yn yc] 60) := ⟨_, rfl⟩
      have B2 : Below wr.heap.size wr W2 := by rw [hW2]; exact (Below.refl _ wr).alloc (Nat.le_refl _) _
      rw [← hW2]
      refine (attribute_calls T1 W2 _ _ _ (TreeAt.below B2 _ _ _ _ HT2.out) (by rw [← HQ.out]; omega)).mono ?_
      rintro e w3 ⟨A3, c3, rfl, hown3, hb3⟩
      rw [← HQ.out] at hown3
      rw [← HQ.out]
      obtain ⟨A3', c3', e3, -, hr3, hn3⟩ := Rd.of_own hown3
      injection e3 with e31 e32 e33
      subst e31 e33
      have B3 := below_trans B2 hb3
      have hz3 := B3.size
      obtain ⟨A4, c4, w4, hrun, hown4, hb4⟩ := app_own w.heap.size A1 n k1 (attrsB (l.take k)) A3 q c3 (attrB T1) w3 (own_below HO.out B3) hr3 HQ.out.symm (fun h => (hn3 h).1) (by omega) (by omega)
      have B4 : Below w.heap.size w w4 := (HB.out.trans (B3.mono hbs)).trans hb4
      have R : w4.ownsRow w.heap.size 5 1 (.slice A4 (n + q) c4) (attrsB (l.take (k + 1))).length (bytesC (attrsB (l.take (k + 1)))) := by
        rw [HSN.out, List.length_append, ← HN.out, ← HQ.out]; exact hown4
      have HRR := Lib.hid R
      have HB4 := Lib.hid B4
      clear hown3 hb3 hr3 hn3 hown4 hb4 B4 R B3 B2 hW2
      go_wp2_with (at_builtin; refine wpList_app rfl _ _ 31 rfl rfl rfl hrun ?_)
      go_roundw
      case rel => exact ⟨k + 1, by omega, by go_num, HRR, HB4⟩
      case measure => simp [intOf]; omega
    · have hkl : k = l.length := by omega
      subst hkl
      rw [List.take_length] at HO hk1
      rw [List.take_length]
      obtain ⟨n, hn⟩ : ∃ n, n = (attrsB l).length := ⟨_, rfl⟩
      rw [← hn] at HO hlen hk1
      rw [← hn]
      obtain ⟨r, hr⟩ : ∃ r, r = raw.length := ⟨_, rfl⟩
      rw [← hr] at hr2 HRAW
      rw [← hr]
      obtain ⟨A2, c2, w2, hrun, hown2, hb2⟩ := app_own w.heap.size A1 n k1 (attrsB l) Ar r cr raw wr HO.out (HRAW.out.below HB.out).rd hr.symm HRAW.out.nil0 (by omega) (by omega)
      have D2 := Lib.hid (HB.out.trans hb2)
      have hz2 := D2.out.size
      obtain ⟨A2', c2', e2, -, hrd2, hnil2⟩ := Rd.of_own hown2
      injection e2 with e21 e22 e23
      subst e21 e23
      have R2 := Lib.hid hrd2
      have N2 := Lib.hid hnil2
      obtain ⟨m, hm⟩ : ∃ m, m = n + r := ⟨_, rfl⟩
      rw [← hm] at hrun N2
      have hm2 : m ≤ 100200 := by omega
      have HM := Lib.hid (show m = (attrsB l ++ raw).length by rw [List.length_append, ← hn, ← hr]; exact hm)
      have x1 : IntKind.u64.wrap ((m : Int) + 16) = (m : Int) + 16 := IntWalk.u64_in _ (by omega)
      have x2 : IntKind.u64.wrap t = t := IntWalk.u64_in _ (by omega)
      have x4 : IntKind.u64.wrap s = s := IntWalk.u64_in _ (by omega)
      have hgb := orOne_bound f hf
      obtain ⟨g, hg⟩ : ∃ g, g = orOne f := ⟨_, rfl⟩
      have wo : bits .or .i64 f 1 = g := by rw [hg]; exact or1_i64 f hf
      rw [← hg] at hgb
      have x3 : IntKind.u64.wrap g = g := IntWalk.u64_in _ (by omega)
      have HG := Lib.hid hg
      clear hn hr hm hown2 hb2 hr1 hn1 hg HO hrd2 hnil2
      go_wp2_with (at_builtin; refine wpList_app rfl _ _ 31 rfl rfl rfl hrun ?_)
      clear hrun
      refine (low_calls ((m : Int) + 16) 4 4 _ rfl (by decide) (by decide)).mono ?_
      rintro e w3 ⟨v3, rfl, hown3, hb3⟩
      obtain ⟨X3, k3, rfl, -, hr3, hn3⟩ := Rd.of_own hown3
      have E3 := Lib.hid hb3
      have O3 := Lib.hid hown3
      have hz3 := hb3.size
      clear hown3 hb3 hr3 hn3
      go_wp2_with fail
      refine (low_calls t 2 2 _ rfl (by decide) (by decide)).mono ?_
      rintro e w4 ⟨v4, rfl, hown4, hb4⟩
      obtain ⟨X4, k4, rfl, -, hr4, hn4⟩ := Rd.of_own hown4
      have hz4 := hb4.size
      obtain ⟨A5, c5, w5, hrun5, hown5, hb5⟩ := app_own' w2.heap.size X3 4 k3 (lowB ((m : Int) + 16) 4) X4 2 k4 (lowB t 2) w4 6 rfl (own_below O3.out hb4) hr4 (by simp) (fun h => (hn4 h).1) (by omega) (by omega)
      have E5 := Lib.hid ((E3.out.trans (hb4.mono hz3)).trans hb5)
      have O5 := Lib.hid hown5
      have hz5 := E5.out.size
      clear hown4 hb4 hr4 hn4 hown5 hb5 O3 E3
      go_wp2_with (at_builtin; refine wpList_app rfl _ _ 31 rfl rfl rfl hrun5 ?_)
      clear hrun5
      refine (low_calls g 2 2 _ rfl (by decide) (by decide)).mono ?_
      rintro e w6 ⟨v6, rfl, hown6, hb6⟩
      obtain ⟨X6, k6, rfl, -, hr6, hn6⟩ := Rd.of_own hown6
      have hz6 := hb6.size
      obtain ⟨A7, c7, w7, hrun7, hown7, hb7⟩ := app_own' w2.heap.size A5 6 c5 _ X6 2 k6 (lowB g 2) w6 8 rfl (own_below O5.out hb6) hr6 (by simp) (fun h => (hn6 h).1) (by omega) (by omega)
      have E7 := Lib.hid ((E5.out.trans (hb6.mono hz5)).trans hb7)
      have O7 := Lib.hid hown7
      have hz7 := E7.out.size
      clear hown6 hb6 hr6 hn6 hown7 hb7 O5 E5
      go_wp2_with (at_builtin; refine wpList_app rfl _ _ 31 rfl rfl rfl hrun7 ?_)
      clear hrun7
      refine (low_calls s 4 4 _ rfl (by decide) (by decide)).mono ?_
      rintro e w8 ⟨v8, rfl, hown8, hb8⟩
      obtain ⟨X8, k8, rfl, -, hr8, hn8⟩ := Rd.of_own hown8
      have hz8 := hb8.size
      obtain ⟨A9, c9, w9, hrun9, hown9, hb9⟩ := app_own' w2.heap.size A7 8 c7 _ X8 4 k8 (lowB s 4) w8 12 rfl (own_below O7.out hb8) hr8 (by simp) (fun h => (hn8 h).1) (by omega) (by omega)
      have E9 := Lib.hid ((E7.out.trans (hb8.mono hz7)).trans hb9)
      have O9 := Lib.hid hown9
      have hz9 := E9.out.size
      clear hown8 hb8 hr8 hn8 hown9 hb9 O7 E7
      have D9 : Below w9.heap.size w9 (w9.alloc (.cells #[.int .u8 0, .int .u8 0, .int .u8 0, .int .u8 0] 5)) := (Below.refl _ _).alloc (Nat.le_refl _) _
      have hz9a := D9.size
      have rd4 : Rd (w9.alloc (.cells #[.int .u8 0, .int .u8 0, .int .u8 0, .int .u8 0] 5)) (some ⟨w9.heap.size, 0, none⟩) (bytesC [0, 0, 0, 0]) := fun _ => ⟨w9.heap.size, 0, rfl, fun j u hj => by
        have h := cell_four_new w9 (.int .u8 0) (.int .u8 0) (.int .u8 0) (.int .u8 0) 5 j u (by simpa [bytesC] using hj)
        rwa [Addr.add_lit] at h⟩
      obtain ⟨A10, c10, w10, hrun10, hown10, hb10⟩ := app_own' w2.heap.size A9 12 c9 _ (some ⟨w9.heap.size, 0, none⟩) 4 4 [0, 0, 0, 0] (w9.alloc (.cells #[.int .u8 0, .int .u8 0, .int .u8 0, .int .u8 0] 5)) 16 rfl (own_below O9.out D9) rd4 rfl (fun h => by cases h) (by omega) (by omega)
      have E10 := (E9.out.trans (D9.mono hz9)).trans hb10
      have hz10 := E10.size
      obtain ⟨A11, c11, w11, hrun11, hown11, hb11⟩ := app_own w2.heap.size A10 16 c10 _ A2 m c2 (attrsB l ++ raw) w10 hown10 (R2.out.below E10) HM.out.symm (fun h => (N2.out h).1) (by omega) (by omega)
      have D11 := Lib.hid (D2.out.trans ((E10.trans hb11).mono hz2))
      have O11 := Lib.hid hown11
      clear O9 E9 D9 rd4 hown10 hb10 E10 hown11 hb11 hz9a
      go_wp2_with (first | (at_builtin; refine wpList_app rfl _ _ 31 rfl rfl rfl hrun9 ?_; clear hrun9) | (at_builtin; refine wpList_app rfl _ _ 31 rfl rfl rfl hrun10 ?_; clear hrun10) | (at_builtin; refine wpList_app rfl _ _ 31 rfl rfl rfl hrun11 ?_; clear hrun11))
      go_ret
      refine ⟨.slice A11 (16 + m) c11, rfl, ?_, D11.out⟩
      have h := O11.out
      rw [HG.out] at h
      rw [reqB, ← HM.out]
      exact own_lower h hz2
end Go.Proofs.Ytbogknjgjbhagaa
