/- The statement on attributes of different types: it answers true, whatever list comes in. -/
import Derived.Test.YtbogknjgjbhagaaMap2
import Derived.Test.YtbogknjgjbhagaaPar8
namespace Go.Proofs.Ytbogknjgjbhagaa
open Go.RowKit
set_option linter.unusedSimpArgs false

set_option maxHeartbeats 1000000 in
set_option maxRecDepth 100000 in
theorem parseMap_calls (A : Option Addr) (n c : Nat) (l : List (Int × List Int)) (w : World) (hr : Rd w A (bytesC (listB l))) (hn : n = (listB l).length) (hA : A = none → n = 0) (hok : ∀ x ∈ l, AttrOk x) (hb : ∀ x ∈ l, AllB x.2) (h20 : l.length ≤ 20) (hbig : n ≤ 1000000) (hinc : (l.map Prod.fst).Pairwise (· < ·)) :
    Calls Try.prog 37 #[.slice A n c] w fun e w' => ∃ v, e = .returned (.tuple #[v, .bool true]) ∧ PairsV w' v l ∧ Below w.heap.size w w' := by
  have hmf : ∀ (fn : Fn) (first cap : Array Value) (w : World), (Instr.makeFunc fn first cap).run Try.prog w = .ok (.func fn first cap) w := fun _ _ _ _ => rfl
  have HR := Lib.hid hr
  have HN := Lib.hid hn
  have HA := Lib.hid hA
  have HOK := Lib.hid hok
  have HAB := Lib.hid hb
  have HI := Lib.hid hinc
  clear hr hn hA hok hb hinc
  go_enter Try.func37, Try.ntmps37
  go_wp2_with fail
  refine (try_calls 76 _ _ (some (w.heap.size + 1)) true (fun W => OutAt W (w.heap.size + 3) (w.heap.size + 1) l) (fun w => Try.enter76 _ w) (by simp) ?cl ?post).mono ?_
  case cl =>
    refine (parseMap1_calls w.heap.size (w.heap.size + 1) A n c l _ (alloc_at3 _ _ _ _) (alloc_at3' _ _ _ _) (HR.out.below (below3 _ _ _ _)) HN.out HA.out HOK.out HAB.out h20 hbig HI.out).mono ?_
    rintro e w' ⟨rfl, hg, ho⟩
    exact ⟨rfl, hg, by simpa using ho⟩
  case post =>
    intro w' h
    exact h.far (by simp) (by simp) _
  rintro e w1 ⟨rfl, hg, v, hs, hv, hown, hm⟩
  have B1 : Below w.heap.size w w1 := below_grown (below2 _ _ _) hg (by intro k hk; simp at hk; omega)
  obtain ⟨A1, k1, rfl, -, -, -⟩ := Rd.of_own hown
  have cc := cell_of_one hv
  have ff := free_of_one hv
  have HV := Lib.hid hv
  have HO := Lib.hid hown
  have HM := Lib.hid hm
  have HB := Lib.hid B1
  clear hg hv hown hm B1
  go_wp2_with fail
  have cc2 := cell_of_one (one_setCell (u := .slice A1 l.length k1) HV.out)
  refine bodyPost_ret (v := .tuple #[.slice A1 l.length k1, .bool true]) (by simp [results, Try.results37, go_sem, cc2]) rfl ⟨_, rfl, out_final HV.out HO.out HM.out (by omega) _, HB.out.setCell (by simp) _⟩

def IncTo (l : List (Int × List Int)) (k : Nat) : Prop := ∀ (i : Nat) (x y : Int × List Int), i + 1 < k → l[i]? = some x → l[i + 1]? = some y → x.1 < y.1
theorem incTo_all {l : List (Int × List Int)} (h : IncTo l l.length) : (l.map Prod.fst).Pairwise (· < ·) := by
  rw [List.pairwise_iff_getElem]
  intro i j hi hj hij
  simp only [List.length_map] at hi hj
  simp only [List.getElem_map]
  obtain ⟨d, rfl⟩ : ∃ d, j = i + 1 + d := ⟨j - (i + 1), by omega⟩
  clear hij
  induction d with
  | zero => exact h i l[i] l[i + 1] (by omega) (List.getElem?_eq_getElem hi) (List.getElem?_eq_getElem (by omega))
  | succ d ih =>
    have h1 := ih (by omega)
    have h2 := h (i + 1 + d) l[i + 1 + d] l[i + 1 + d + 1] (by omega) (List.getElem?_eq_getElem (by omega)) (List.getElem?_eq_getElem (by omega))
    exact Int.lt_trans (h1 (by omega)) h2
theorem IncTo.next {l : List (Int × List Int)} {k : Nat} (h : IncTo l (k + 1)) {x y : Int × List Int} (hx : l[k]? = some x) (hy : l[k + 1]? = some y) (hlt : x.1 < y.1) : IncTo l (k + 2) := by
  intro i x' y' hi h1 h2
  by_cases e : i = k
  · subst e
    rw [hx] at h1
    rw [hy] at h2
    injection h1 with h1
    injection h2 with h2
    subst h1 h2
    exact hlt
  · exact h i x' y' (by omega) h1 h2

set_option maxHeartbeats 2000000 in
set_option maxRecDepth 100000 in
theorem fnParseMap_calls (v : Value) (l : List (Int × List Int)) (w : World) (hv : PairsV w v l) (hl : LenOk l) (hb : ∀ x ∈ l, AllB x.2) :
    Calls Try.prog 10 #[v] w fun e w' => e = .returned (.bool true) ∧ Below w.heap.size w w' := by
  have HV := Lib.hid hv
  have HL := Lib.hid hl
  have HAB := Lib.hid hb
  obtain ⟨hs, A, c, rfl, hc, -⟩ := hv
  clear hl hb
  go_enter Try.func10, Try.ntmps10
  go_wp2_with fail
  refine (zzFits2_calls _ l w HV.out HL.out).mono ?_
  rintro e w1 ⟨r, rfl, hr, hb1⟩
  have HB1 := Lib.hid hb1
  have HR := Lib.hid hr
  clear hb1 hr
  cases r with
  | false =>
    go_wp2_with fail
    go_ret
    exact ⟨rfl, HB1.out⟩
  | true =>
    have hlen := HR.out rfl
    clear HR
    go_wp2_with fail
    refine (attrs_calls _ l w1 (HV.out.below HB1.out) HL.out hlen).mono ?_
    rintro e w2 ⟨v2, r2, rfl, hr2, hb2⟩
    have HB2 := Lib.hid (below_trans HB1.out hb2)
    clear hb2
    cases r2 with
    | false =>
      clear hr2
      go_wp2_with (go_at_call 11; refine (works_calls _).mono ?_; rintro e w' ⟨rfl, rfl⟩)
      go_ret
      exact ⟨rfl, HB2.out⟩
    | true =>
      obtain ⟨h20, hok, hpv⟩ := hr2 rfl
      have HPV := Lib.hid hpv
      obtain ⟨hs2, A2, c2, rfl, hc2, hrd2, -, hm2⟩ := hpv
      have HRD2 := Lib.hid hrd2
      have HM2 := Lib.hid hm2
      have HOK := Lib.hid hok
      have hbound : (listB l).length ≤ 10000 := by have := listB_bound l hok; omega
      have hsz2 := HB2.out.size
      clear hr2 hok hrd2 hm2
      go_wp2_with fail
      go_loopw [21] (fun i wr => ∃ k : Nat, k ≤ l.length ∧ i = .int .i64 (k : Nat) ∧ Hid (IncTo l k) ∧ Hid (Below w2.heap.size w2 wr)) (fun i _ => l.length - (intOf i).toNat)
      case atStart => exact ⟨0, Nat.zero_le _, rfl, fun i x y h => by omega, Below.refl _ _⟩
      case round =>
        obtain ⟨k, hk, rfl, INC, HB⟩ := hrel
        by_cases hlt : k < l.length
        · by_cases hk0 : k = 0
          · subst hk0
            go_wp2_with fail
            go_quiet (fail)
            go_wp2_with fail
            go_roundw
            case rel => exact ⟨1, by omega, rfl, fun i x y h => by omega, below_drewN HB.out nq⟩
            case measure => simp [intOf]; omega
          · obtain ⟨m, rfl⟩ : ∃ m, k = m + 1 := ⟨k - 1, by omega⟩
            obtain ⟨b, o, a, n, c', rfl, -, e0, -, -⟩ := pair_at HRD2.out HM2.out (m + 1) hlt
            obtain ⟨b', o', a', n', c'', e, -, e1, -, -⟩ := pair_at HRD2.out HM2.out m (by omega)
            injection e with e
            injection e with e2 e3
            subst e2 e3
            have f0 := cells_one HB.out e0
            have f1 := cells_one HB.out e1
            have hx0 := List.getElem?_eq_getElem (show m < l.length by omega)
            have hx1 := List.getElem?_eq_getElem hlt
            obtain ⟨x0, hxx0⟩ : ∃ x0, x0 = l[m] := ⟨_, rfl⟩
            obtain ⟨x1, hxx1⟩ : ∃ x1, x1 = l[m + 1] := ⟨_, rfl⟩
            rw [← hxx0] at f1 hx0
            rw [← hxx1] at f0 hx1
            obtain ⟨t0, d0⟩ := x0
            obtain ⟨t1, d1⟩ := x1
            simp only at f0 f1
            have HX0 := Lib.hid hx0
            have HX1 := Lib.hid hx1
            have hpos : decide ((0 : Int) < ((m + 1 : Nat) : Int)) = true := by rw [decide_eq_true_eq]; omega
            have wm : IntKind.i64.wrap ((m : Int) + 1 - 1) = (m : Int) := by rw [show (m : Int) + 1 - 1 = (m : Int) from by omega]; exact IntWalk.i64_in _ (by omega)
            clear e0 e1 hxx0 hxx1 hx0 hx1
            by_cases hge : t1 ≤ t0
            · have hge' : decide (t1 ≤ t0) = true := by simpa using hge
              go_wp2_with fail
              go_quiet (fail)
              go_wp2_with (go_at_call 11; refine (works_calls _).mono ?_; rintro e w' ⟨rfl, rfl⟩)
              go_ret
              exact ⟨rfl, HB2.out.trans ((below_drewN HB.out nq).mono hsz2)⟩
            · have hge' : decide (t1 ≤ t0) = false := by simpa using hge
              have INC2 : Hid (IncTo l (m + 2)) := INC.out.next HX0.out HX1.out (by simp; omega)
              go_wp2_with fail
              go_quiet (fail)
              go_wp2_with fail
              go_roundw
              case rel => exact ⟨m + 2, by omega, by go_num, INC2, below_drewN HB.out nq⟩
              case measure => simp [intOf]; omega
        · have hkl : k = l.length := by omega
          subst hkl
          have HINC := Lib.hid (incTo_all INC.out)
          have BW := Lib.hid (HB2.out.trans (HB.out.mono hsz2))
          have HPV2 := Lib.hid (HPV.out.below HB.out)
          go_wp2_with fail
          refine (bytes_calls _ l wr HPV2.out HAB.out HOK.out h20).mono ?_
          rintro e w3 ⟨v3, rfl, hown3, hb3⟩
          obtain ⟨A3, c3, rfl, hc3, hr3, hn3⟩ := Rd.of_own hown3
          have hszr := BW.out.size
          have HB3 := Lib.hid (BW.out.trans (hb3.mono hszr))
          have HP3 := Lib.hid (HPV2.out.below hb3)
          have HR3 := Lib.hid hr3
          have HN3 := Lib.hid hn3
          obtain ⟨m, hm⟩ : ∃ m, m = (listB l).length := ⟨_, rfl⟩
          rw [← hm]
          rw [← hm] at hc3 hbound HN3
          have HM := Lib.hid hm
          clear hown3 hb3 hr3 hn3 hm
          go_wp2_with fail
          refine (parseMap_calls A3 m c3 l w3 HR3.out HM.out (fun h => (HN3.out h).1) HOK.out HAB.out h20 (by omega) HINC.out).mono ?_
          rintro e w4 ⟨v4, rfl, hp4, hb4⟩
          have hsz3 := HB3.out.size
          have HB4 := Lib.hid (HB3.out.trans (hb4.mono hsz3))
          have HP4 := Lib.hid hp4
          have HPX4 := Lib.hid (HP3.out.below hb4)
          clear hp4 hb4
          go_wp2_with fail
          refine (same_calls _ _ l w4 HP4.out HPX4.out (by omega)).mono ?_
          rintro e w5 ⟨rfl, hb5⟩
          have hsz4 := HB4.out.size
          have HB5 := Lib.hid (HB4.out.trans (hb5.mono hsz4))
          clear hb5
          go_wp2_with (go_at_call 11; refine (works_calls _).mono ?_; rintro e w' ⟨rfl, rfl⟩)
          go_ret
          exact ⟨rfl, HB5.out⟩
end Go.Proofs.Ytbogknjgjbhagaa
