/- The statement's own lists: attributes of the reference; whether two lists are the same; the reference's bytes of a list. -/
import Derived.Test.YtbogknjgjbhagaaPrs
import Derived.BigQuiet
import Derived.Deep.QuietTactic
namespace Go.Proofs.Ytbogknjgjbhagaa
open Go.RowKit

def AttrOk (x : Int × List Int) : Prop := 0 ≤ x.1 ∧ x.1 ≤ 65535 ∧ x.2.length ≤ 300

theorem own_pairs {w : World} {base e n : Nat} {v : Value} {hs : List (Int × Value)} {l : List (Int × List Int)} (h : w.ownsRow base e 2 v n (fl pairH hs)) (hn : n = l.length) (hm : Match w hs l) : PairsV w v l := by
  obtain ⟨A, c, rfl, h1, h2, h3⟩ := Rd.of_own h
  subst hn
  exact ⟨hs, A, c, rfl, h1, h2, fun e => List.eq_nil_of_length_eq_zero (h3 e).1, hm⟩

def AttrsPost (l : List (Int × List Int)) (w : World) (e : Ending) (w' : World) : Prop := ∃ v' r, e = .returned (.tuple #[v', .bool r]) ∧ (r = true → l.length ≤ 20 ∧ (∀ x ∈ l, AttrOk x) ∧ PairsV w' v' l) ∧ Below w.heap.size w w'

set_option maxHeartbeats 1000000 in
set_option maxRecDepth 100000 in
theorem attrs_calls (v : Value) (l : List (Int × List Int)) (w : World) (hv : PairsV w v l) (hl : LenOk l) (hlen : l.length ≤ 2147483647) :
    Calls Try.prog 22 #[v] w fun e w' => AttrsPost l w e w' := by
  obtain ⟨hs, A, c, rfl, hc, hr, hA, hm⟩ := hv
  obtain ⟨i0, hi, hz0, hz1, hz2⟩ := info_parts Try.info74
  have HR := Lib.hid hr
  have HM := Lib.hid hm
  have HL := Lib.hid hl
  clear hr hm hA hl
  go_enter Try.func22, Try.ntmps22
  go_wp2_with fail
  go_loopw [4, 9] (fun s i wr => ∃ k : Nat, k ≤ l.length ∧ i = .int .i64 k ∧ wr.ownsRow w.heap.size 74 2 s k (fl pairH (hs.take k)) ∧ (∀ x ∈ l.take k, AttrOk x) ∧ Below w.heap.size w wr) (fun _ i _ => l.length - (intOf i).toNat)
  case atStart => exact ⟨0, Nat.zero_le _, rfl, World.ownsRow_nil _ _ _ _, by simp, Below.refl _ _⟩
  case round =>
    obtain ⟨k, hk, rfl, hown, hok, hb⟩ := hrel
    have hbs := hb.size
    have HB := Lib.hid hb
    have HO := Lib.hid hown
    have HK := Lib.hid hok
    clear hb hown hok
    by_cases hlt : k < l.length
    · obtain ⟨b, o, a, n, c', rfl, eh, e0, e1, e2⟩ := pair_at HR.out HM.out k hlt
      have f0 := cells_one HB.out e0
      have f1 := cells_one HB.out e1
      have hn : n = l[k].2.length := by
        obtain ⟨A', c'', h1, -⟩ := e2
        injection h1
      have hn2 := HL.out.2 _ (List.getElem_mem hlt)
      have hne : 0 < l.length := by omega
      obtain ⟨x, hx⟩ : ∃ x, x = l[k] := ⟨_, rfl⟩
      rw [← hx] at f0 hn hn2 eh
      obtain ⟨t, d⟩ := x
      simp only at f0 hn hn2 eh
      subst hn
      have HX := Lib.hid hx
      have EH := Lib.hid eh
      clear e0 e1 e2 hx eh
      by_cases h1 : t < 0
      · go_wp2_with fail
        refine bodyPost_ret (v := .tuple #[.slice none 0 0, .bool false]) (by simp [results, Try.results22, go_sem]) rfl ⟨_, _, rfl, (fun h => by cases h), HB.out.alloc hbs _⟩
      · have h1' : decide (t < 0) = false := by simpa using h1
        by_cases h2 : 65535 < t
        · have h2' : decide (65535 < t) = true := by simpa using h2
          go_wp2_with fail
          refine bodyPost_ret (v := .tuple #[.slice none 0 0, .bool false]) (by simp [results, Try.results22, go_sem]) rfl ⟨_, _, rfl, (fun h => by cases h), HB.out.alloc hbs _⟩
        · have h2' : decide (65535 < t) = false := by simpa using h2
          by_cases h3 : 300 < d.length
          · have h3' : decide ((300 : Int) < (d.length : Int)) = true := by simp; omega
            go_wp2_with fail
            refine bodyPost_ret (v := .tuple #[.slice none 0 0, .bool false]) (by simp [results, Try.results22, go_sem]) rfl ⟨_, _, rfl, (fun h => by cases h), HB.out.alloc hbs _⟩
          · have h3' : decide ((300 : Int) < (d.length : Int)) = false := by simp; omega
            go_wp2_with (at_builtin; go_must (refine wpList_append_own _ rfl _ _ 43 rfl w.heap.size 74 i0 (.agg #[.int .i64 0, .slice none 0 0]) 2 32 Try.underlying43 hi hz0 hz1 hz2 rfl (by decide) _ _ _ rfl (by exact (HO.out.alloc _).alloc _) ⟨wr.heap.size + 1, 0, none⟩ 1 1 [.int .i64 t, .slice a d.length c'] rfl rfl (by simpa using cell_two_new (wr.alloc _) _ _ _) (by intro u hu; simp at hu; rcases hu with rfl | rfl <;> rfl) (by unfold maxLen; omega) (by omega) (by simp; omega) ?_))
            intro v' w3 hown' hgrow _
            obtain ⟨A3, c3, rfl, -, -, -⟩ := Rd.of_own hown'
            have B2 : Below w.heap.size w w3 := ((HB.out.alloc hbs (.cells #[.int .i64 t, .slice a d.length c'] 52)).alloc (by simp; omega) (.cells #[.int .i64 t, .slice a d.length c'] 74)).grown hgrow (by simp; omega) (fun q hq => (HO.out.lt q hq).1)
            have R : w3.ownsRow w.heap.size 74 2 (.slice A3 (k + 1) c3) (k + 1) (fl pairH (hs.take (k + 1))) := by
              rw [List.take_add_one, EH.out]
              simpa [fl, pairH] using hown'
            have HRR := Lib.hid R
            have HB2 := Lib.hid B2
            clear hown' hgrow R B2
            go_wp2
            go_roundw
            case rel =>
              refine ⟨k + 1, by omega, by go_num, HRR.out, fun y hy => ?_, HB2.out⟩
              rw [List.take_succ_eq_append_getElem hlt, List.mem_append] at hy
              rcases hy with hy | hy
              · exact HK.out y hy
              · rw [List.mem_singleton.1 hy, ← HX.out]; exact ⟨by simp; omega, by simp; omega, by simp; omega⟩
            case measure => simp [intOf]; omega
    · have hkl : k = l.length := by omega
      subst hkl
      obtain ⟨A3, c3, rfl, -, -, -⟩ := Rd.of_own HO.out
      by_cases h20 : l.length ≤ 20
      · have h20' : decide ((l.length : Int) ≤ 20) = true := by simp; omega
        go_wp2_with fail
        refine bodyPost_ret (v := .tuple #[.slice A3 l.length c3, .bool true]) (by simp [results, Try.results22, go_sem]) rfl ⟨_, _, rfl, fun _ => ?_, HB.out⟩
        refine ⟨h20, by simpa using HK.out, ?_⟩
        have h := HO.out
        rw [← HM.out.1, List.take_length, HM.out.1] at h
        exact own_pairs h rfl (HM.out.below HB.out)
      · have h20' : decide ((l.length : Int) ≤ 20) = false := by simp; omega
        go_wp2_with fail
        refine bodyPost_ret (v := .tuple #[.slice A3 l.length c3, .bool false]) (by simp [results, Try.results22, go_sem]) rfl ⟨_, _, rfl, (fun h => by cases h), HB.out⟩
end Go.Proofs.Ytbogknjgjbhagaa
