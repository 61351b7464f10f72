/- Whether two lists are the same. -/
import Derived.Test.YtbogknjgjbhagaaPrs2
namespace Go.Proofs.Ytbogknjgjbhagaa
open Go.RowKit
set_option linter.unusedSimpArgs false

set_option maxHeartbeats 1000000 in
set_option maxRecDepth 100000 in
theorem same_calls (v1 v2 : Value) (l : List (Int × List Int)) (w : World) (hv1 : PairsV w v1 l) (hv2 : PairsV w v2 l) (hlen : l.length ≤ 2147483647) :
    Calls Try.prog 25 #[v1, v2] w fun e w' => e = .returned (.bool true) ∧ Below w.heap.size w w' := by
  obtain ⟨hs, A, c, rfl, hc, hr, hA, hm⟩ := hv1
  obtain ⟨hs2, A2, c2, rfl, hc2, hr2, hA2, hm2⟩ := hv2
  have HR := Lib.hid hr
  have HM := Lib.hid hm
  have HR2 := Lib.hid hr2
  have HM2 := Lib.hid hm2
  clear hr hm hA hr2 hm2 hA2
  go_enter Try.func25, Try.ntmps25
  go_wp2_with fail
  go_loopw [13] (fun i wr => ∃ k : Nat, k ≤ l.length ∧ i = .int .i64 k ∧ Below w.heap.size w wr) (fun i _ => l.length - (intOf i).toNat)
  case atStart => exact ⟨0, Nat.zero_le _, rfl, Below.refl _ _⟩
  case round =>
    obtain ⟨k, hk, rfl, hb⟩ := hrel
    have hbs := hb.size
    have HB := Lib.hid hb
    clear hb
    by_cases hlt : k < l.length
    · obtain ⟨b, o, a, n, c', rfl, -, e0, e1, e2⟩ := pair_at HR.out HM.out k hlt
      obtain ⟨b2, o2, a2, n2, c2', rfl, -, e20, e21, e22⟩ := pair_at HR2.out HM2.out k hlt
      have f0 := cells_one HB.out e0
      have f1 := cells_one HB.out e1
      have f20 := cells_one HB.out e20
      have f21 := cells_one HB.out e21
      have cv1 : ∀ m, (convert 31 9 (.slice a n c')).run Try.prog (wr.drewN m) = .ok (.string (strOfNums l[k].2)) (wr.drewN m) := fun m => conv_all _ _ _ (e2.below (below_drewN HB.out m))
      have cv2 : ∀ m, (convert 31 9 (.slice a2 n2 c2')).run Try.prog (wr.drewN m) = .ok (.string (strOfNums l[k].2)) (wr.drewN m) := fun m => conv_all _ _ _ (e22.below (below_drewN HB.out m))
      obtain ⟨t, ht⟩ : ∃ t, t = l[k].1 := ⟨_, rfl⟩
      obtain ⟨d, hd⟩ : ∃ d, d = l[k].2 := ⟨_, rfl⟩
      rw [← ht] at f0 f20
      rw [← hd] at cv1 cv2
      have hne : 0 < l.length := by omega
      clear e0 e1 e2 e20 e21 e22 ht hd
      go_wp2_with fail
      go_quiet (fail)
      go_wp2_with fail
      go_roundw
      case rel => exact ⟨k + 1, by omega, by go_num, below_drewN HB.out nq⟩
      case measure => simp [intOf]; omega
    · have hkl : k = l.length := by omega
      subst hkl
      go_wp2_with fail
      go_ret
      exact ⟨rfl, HB.out⟩

/-- The bytes of a list of attributes. -/
def leaf (x : Int × List Int) : Tree := .node x.1 x.2 []
def listB (l : List (Int × List Int)) : List Int := attrsB (l.map leaf)
theorem listB_take_succ (l : List (Int × List Int)) (k : Nat) (h : k < l.length) : listB (l.take (k + 1)) = listB (l.take k) ++ attrB (leaf l[k]) := by
  rw [List.take_succ_eq_append_getElem h, listB, List.map_append, attrsB_append]
  simp [listB, attrsB]
theorem listB_take_le (l : List (Int × List Int)) (k : Nat) : (listB (l.take k)).length ≤ (listB l).length := by
  have := attrsB_take_le (l.map leaf) k
  rw [← List.map_take] at this
  exact this
theorem leaf_len (x : Int × List Int) : (attrB (leaf x)).length = (x.2.length + 7) / 4 * 4 := by
  rw [leaf, attrB_len]; simp [attrsB]
theorem listB_bound : ∀ (l : List (Int × List Int)), (∀ x ∈ l, AttrOk x) → (listB l).length ≤ l.length * 307
  | [], _ => by simp [listB, attrsB]
  | x :: r, h => by
    have ih := listB_bound r (fun y hy => h y (by simp [hy]))
    have h1 := (h x (by simp)).2.2
    have h2 := leaf_len x
    simp only [listB, List.map_cons, attrsB, List.length_append, List.length_cons] at ih ⊢
    rw [h2]
    omega

set_option maxHeartbeats 1000000 in
set_option maxRecDepth 100000 in
theorem bytes_calls (v : Value) (l : List (Int × List Int)) (w : World) (hv : PairsV w v l) (hb : ∀ x ∈ l, AllB x.2) (hok : ∀ x ∈ l, AttrOk x) (h20 : l.length ≤ 20) :
    Calls Try.prog 23 #[v] w fun e w' => ∃ v', e = .returned v' ∧ w'.ownsRow w.heap.size 5 1 v' (listB l).length (bytesC (listB l)) ∧ Below w.heap.size w w' := by
  obtain ⟨hs, A, c, rfl, hc, hr, hA, hm⟩ := hv
  have hbound : (listB l).length ≤ 10000 := by have := listB_bound l hok; omega
  have HR := Lib.hid hr
  have HM := Lib.hid hm
  have HAB := Lib.hid hb
  have HOK := Lib.hid hok
  have HBD := Lib.hid hbound
  clear hr hm hA hb hok
  go_enter Try.func23, Try.ntmps23
  go_wp2_with fail
  go_loopw [3, 8] (fun s i wr => ∃ k : Nat, k ≤ l.length ∧ i = .int .i64 k ∧ wr.ownsRow w.heap.size 5 1 s (listB (l.take k)).length (bytesC (listB (l.take k))) ∧ Below w.heap.size w wr) (fun _ i _ => l.length - (intOf i).toNat)
  case atStart => exact ⟨0, Nat.zero_le _, rfl, World.ownsRow_nil _ _ _ _, Below.refl _ _⟩
  case round =>
    obtain ⟨k, hk, rfl, hown, hb⟩ := hrel
    have hbs := hb.size
    have HB := Lib.hid hb
    have hle := listB_take_le l k
    obtain ⟨A1, k1, rfl, hk1, hr1, hn1⟩ := Rd.of_own hown
    obtain ⟨n, hn⟩ : ∃ n, n = (listB (l.take k)).length := ⟨_, rfl⟩
    rw [← hn] at hown hle hk1
    rw [← hn]
    have HO := Lib.hid hown
    have HN := Lib.hid hn
    clear hb hown hr1 hn1 hn
    by_cases hlt : k < l.length
    · obtain ⟨b, o, a, m, c', rfl, eh, e0, e1, e2⟩ := pair_at HR.out HM.out k hlt
      have f0 := cells_one HB.out e0
      have f1 := cells_one HB.out e1
      have g2 := e2.below HB.out
      have hmem : l[k] ∈ l := List.getElem_mem hlt
      have hxo := HOK.out _ hmem
      have hxb := HAB.out _ hmem
      have hsucc := listB_take_succ l k hlt
      have hsl := listB_take_le l (k + 1)
      obtain ⟨x, hx⟩ : ∃ x, x = l[k] := ⟨_, rfl⟩
      rw [← hx] at f0 g2 hxo hxb hsucc
      have hT : TreeAt wr (.int .i64 x.1) (.slice a m c') (.slice none 0 0) (leaf x) := by
        simp only [leaf, TreeAt]
        exact ⟨trivial, hxo.1, by have := hxo.2.1; omega, hxb, g2, none, 0, rfl, Nat.le_refl _, fun h => absurd rfl h⟩
      have hll := leaf_len x
      have hx300 := hxo.2.2
      have hne : 0 < l.length := by omega
      have HT := Lib.hid hT
      have HS := Lib.hid hsucc
      have hlen2 : n + (attrB (leaf x)).length ≤ 10000 := by
        rw [hsucc, List.length_append, ← HN.out] at hsl; omega
      obtain ⟨t, ht⟩ : ∃ t, t = x.1 := ⟨_, rfl⟩
      rw [← ht] at f0
      have HTT := Lib.hid ht
      have hpos : 0 < (attrB (leaf x)).length := by omega
      obtain ⟨q, hq⟩ : ∃ q, q = (attrB (leaf x)).length := ⟨_, rfl⟩
      rw [← hq] at hlen2 hpos
      have HQ := Lib.hid hq
      clear e0 e1 e2 hx hT hsucc hmem hxo hxb g2 hll hsl ht hq
      go_wp2_with fail
      have ac := attribute_calls (leaf x) (wr.alloc (.cells #[.int .i64 t, .slice a m c'] 74)) (.int .i64 t) (.slice a m c') (.slice none 0 0) (by rw [HTT.out]; exact TreeAt.below ((Below.refl _ _).alloc (Nat.le_refl _) _) _ _ _ _ HT.out) (by rw [← HQ.out]; omega)
      refine ac.mono ?_
      rintro e w3 ⟨A3, c3, rfl, hown3, hb3⟩
      rw [← HQ.out] at hown3
      rw [← HQ.out]
      obtain ⟨A3', c3', e3, -, hr3, hn3⟩ := Rd.of_own hown3
      injection e3 with e31 e32 e33
      subst e31 e33
      have B3 := below_trans (w := wr) ((Below.refl _ wr).alloc (Nat.le_refl _) _) hb3
      have hz3 := B3.size
      obtain ⟨A4, c4, w4, hrun, hown4, hb4⟩ := app_own w.heap.size A1 n k1 (listB (l.take k)) A3 q c3 (attrB (leaf x)) w3 (own_below HO.out B3) hr3 HQ.out.symm (fun h => (hn3 h).1) (by omega) (by omega)
      have B4 : Below w.heap.size w w4 := (HB.out.trans (B3.mono hbs)).trans hb4
      have R : w4.ownsRow w.heap.size 5 1 (.slice A4 (n + q) c4) (listB (l.take (k + 1))).length (bytesC (listB (l.take (k + 1)))) := by
        rw [HS.out, List.length_append, ← HN.out, ← HQ.out]; exact hown4
      have HRR := Lib.hid R
      have HB4 := Lib.hid B4
      clear hown3 hb3 hr3 hn3 hown4 hb4 B4 R B3 ac
      go_wp2_with (at_builtin; refine wpList_app rfl _ _ 31 rfl rfl rfl hrun ?_)
      go_roundw
      case rel => exact ⟨k + 1, by omega, by go_num, HRR.out, HB4.out⟩
      case measure => simp [intOf]; omega
    · have hkl : k = l.length := by omega
      subst hkl
      go_wp2_with fail
      go_ret
      have e : listB (l.take l.length) = listB l := by rw [List.take_length]
      have h := HO.out
      rw [e] at h
      have h2 := HN.out
      rw [e] at h2
      refine ⟨_, rfl, ?_, HB.out⟩
      rw [← h2]
      exact h
end Go.Proofs.Ytbogknjgjbhagaa
