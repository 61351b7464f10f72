/- The thin package's reading of attributes by growing types: what is tried. -/
import Derived.Test.YtbogknjgjbhagaaMap1
import Derived.Test.YtbogknjgjbhagaaSort
import Derived.Test.YtbogknjgjbhagaaPar7
import Derived.Sort.OwnSortedInts
namespace Go.Proofs.Ytbogknjgjbhagaa
open Go.RowKit
set_option linter.unusedSimpArgs false

theorem Try.enter76 (args : Array Value) (w : World) : (callFunc 76 args).run Try.prog w = .ok (.enter 76 args) w := by kernel_rfl

/-- The types met so far: none twice, each just where the map has it and it is no longer to come. -/
def Coll (D : DataW Value) (left : Lit → Bool) (ts : List Int) : Prop := ts.Nodup ∧ ∀ x, x ∈ ts ↔ (Maps.has D (.int .u16 x) = true ∧ left (.int .u16 x) = false)
theorem Coll.start (D : DataW Value) : Coll D (Maps.has D) [] := ⟨List.nodup_nil, fun x => by cases Maps.has D (.int .u16 x) <;> simp⟩
theorem Coll.step {D : DataW Value} {left : Lit → Bool} {ts : List Int} (h : Coll D left ts) {x : Int} {y : DataW Value} (hlk : left (.int .u16 x) = true) (hat : ∀ zd, D.atKey (.int .u16 x) zd = y) : Coll D (fun z => left z && !z.sameKey (.int .u16 x)) (ts ++ [x]) := by
  have hhas : Maps.has D (.int .u16 x) = true := Maps.has_true_of_atKey hat
  have hnew : x ∉ ts := fun hx => by have := ((h.2 x).1 hx).2; rw [hlk] at this; cases this
  refine ⟨List.nodup_append.2 ⟨h.1, by simp, fun a ha b hb => by simp at hb; subst hb; exact fun e => hnew (e ▸ ha)⟩, fun y => ?_⟩
  by_cases hy : y = x
  · subst hy; simp [hhas, Lit.sameKey]
  · simp [h.2 y, hy, Lit.sameKey]

def leI : Int → Int → Bool := fun x y => decide (x ≤ y)
theorem sorted_types {ts tt : List Int} (hn : ts.Nodup) (ht : tt.Pairwise (· < ·)) (hm : ∀ x, x ∈ ts ↔ x ∈ tt) : (ts.mergeSort fun x y => decide (x ≤ y)) = tt := by
  have hnt : tt.Nodup := ht.imp (fun {a b} h e => by omega)
  have hp : ts.Perm tt := (List.perm_ext_iff_of_nodup hn hnt).2 hm
  have tr : ∀ a b c : Int, decide (a ≤ b) = true → decide (b ≤ c) = true → decide (a ≤ c) = true := fun a b c h1 h2 => by simp only [decide_eq_true_eq] at *; omega
  have to : ∀ a b : Int, (decide (a ≤ b) || decide (b ≤ a)) = true := fun a b => by simp only [Bool.or_eq_true, decide_eq_true_eq]; omega
  refine List.Perm.eq_of_pairwise (le := fun a b => decide (a ≤ b) = true) (fun a b _ _ h1 h2 => ?_) (List.pairwise_mergeSort tr to ts) (ht.imp (fun {a b} h => by simp only [decide_eq_true_eq]; omega)) ((List.mergeSort_perm ts _).trans hp)
  simp only [decide_eq_true_eq] at h1 h2
  omega

/-- A row of whole numbers sorted in place. -/
theorem sortRow_calls (base : Nat) (A : Option Addr) (c : Nat) (ts : List Int) (w : World) (hown : w.ownsRow base 3 1 (.slice A ts.length c) ts.length (intsC ts)) (h : ts.length ≤ 1000) :
    Calls Try.prog 78 #[.slice A ts.length c] w fun e w' => e = .returned (.tuple #[]) ∧ w'.ownsRow base 3 1 (.slice A ts.length c) ts.length (intsC (ts.mergeSort fun x y => decide (x ≤ y))) ∧ w.grownBy w' (Value.slice A ts.length c).ownBlock := by
  by_cases h0 : ts = []
  · subst h0
    refine (sort_none A c w).mono ?_
    rintro e w' ⟨rfl, rfl⟩
    exact ⟨rfl, by simpa using hown, World.grownBy.refl _ _⟩
  · rcases hown.2 with ⟨hv, -⟩ | ⟨g, cap, cur, hv, hb, hg, hnc, hcm, hcs, hxs⟩
    · injection hv with _ hv
      exact absurd (List.eq_nil_of_length_eq_zero hv) h0
    · injection hv with hv1 hv2 hv3
      subst hv1 hv3
      rw [Nat.mul_one] at hxs
      have hH := holds_of_blockI (ss := ts) hg hxs
      refine (sort_some g 0 c ts w hH (lt_of_block hg) (by omega)).mono ?_
      rintro e w' ⟨rfl, n, os, rfl⟩
      refine ⟨rfl, ?_, grownBy_sortedI _⟩
      exact ownsRow_sortedI (ss := ts) (ts := ts.mergeSort fun x y => decide (x ≤ y)) (by simp) hb hg hnc hcm (by simpa using hcs)

set_option maxRecDepth 100000 in
theorem zero92 (w : World) : (zeroValue 92).run Try.prog w = .ok (.agg #[.int .u16 0, .int .u16 0, .slice none 0 0]) w := by kernel_rfl

/-- The record at a type. -/
theorem look_at {w : World} {mb n : Nat} {hs : List (Int × Int × Value)} (h : w.ownsMap Try.prog 22 recR mb n (dmap hs)) (hw : hs.Pairwise (fun p q => p.2.1 ≠ q.2.1)) (p : Int × Int × Value) (hp : p ∈ hs) (hT : 0 ≤ p.2.1 ∧ p.2.1 ≤ 65535) :
    (Instr.lookup 110 (.map (some mb)) (.int .u16 p.2.1) false).run Try.prog w = .ok (recV p) w := by
  obtain ⟨v, ps, hrun, hv⟩ := h.lookup law22 Try.underlying110 (zero92 w) (zd := .held (.agg #[.int .u16 0, .int .u16 0, .slice none 0 0])) (zp := []) (recR_mk 0 0 none 0 0) (Maps.keyOf_int_mk Try.underlying22 (wf16 hT))
  rw [dmap_at hs _ hw p hp] at hv
  obtain ⟨-, h2⟩ := recR_inv hv
  simp only [Prod.mk.injEq, DataW.held.injEq] at h2
  rw [hrun, h2.1]

theorem own_size {w : World} {mb n : Nat} {D : DataW Value} (h : w.ownsMap Try.prog 22 recR mb n D) : Maps.size D ≤ n := by
  obtain ⟨es, clock, -, -, hs, rfl⟩ := h
  simp only [Maps.size, length_sorted]
  simpa using hs

set_option maxHeartbeats 4000000 in
set_option maxRecDepth 100000 in
theorem parseMap1_calls (bb ob : Nat) (A : Option Addr) (n c : Nat) (l : List (Int × List Int)) (w : World) (hbb : w.heap[bb]? = some (.cells #[.slice A n c] 31 (0, 0))) (hob : w.heap[ob]? = some (.cells #[.slice none 0 0] 41 (0, 0)))
    (hr : Rd w A (bytesC (listB l))) (hn : n = (listB l).length) (hA : A = none → n = 0) (hok : ∀ x ∈ l, AttrOk x) (hb : ∀ x ∈ l, AllB x.2) (h20 : l.length ≤ 20) (hbig : n ≤ 1000000) (hinc : (l.map Prod.fst).Pairwise (· < ·)) :
    Calls Try.prog 76 #[.pointer (some ⟨bb, 0, none⟩), .pointer (some ⟨ob, 0, none⟩)] w fun e w' => e = .returned (.bool true) ∧ w.grownBy w' (some ob) ∧ OutAt w' w.heap.size ob l := by
  obtain ⟨i0, hi, hz0, hz1, hz2⟩ := info_parts Try.info3
  have cb := cell_of_one hbb
  have lob := lt_of_block hob
  have HR := Lib.hid hr
  have HN := Lib.hid hn
  have HA := Lib.hid hA
  have HOK := Lib.hid hok
  have HAB := Lib.hid hb
  have HOB := Lib.hid hob
  have HINC := Lib.hid hinc
  clear hr hn hok hb hbb hA hob hinc
  go_enter Try.func76, Try.ntmps76
  go_wp2_with fail
  refine (clone_bytes A n c (bytesC (listB l)) w HR.out (by rw [bytesC_length]; exact HN.out.symm) (by omega) (bytesC_one _) HA.out).mono ?_
  rintro e w1 ⟨v1, rfl, hown1, hnil1, hb1⟩
  obtain ⟨A1, k1, rfl, hk1, hr1, hn1⟩ := Rd.of_own hown1
  have HR1 := Lib.hid hr1
  have HB1 := Lib.hid hb1
  clear hown1 hnil1 hr1 hn1 hb1
  go_wp2_with fail
  refine (routeMap_calls A1 n k1 l w1 HR1.out HN.out hk1 HOK.out HAB.out h20 hbig).mono ?_
  rintro e w2 ⟨mb, hs, rfl, hom2, hm2, hmb, hb2⟩
  have hlen : hs.length = l.length := by have := hm2.1; rwa [List.length_map] at this
  have hkeys : hs.map (fun p => p.2.1) = l.map Prod.fst := by
    apply List.ext_getElem (by simp [hlen])
    intro i h1 h2
    simp only [List.length_map] at h1 h2
    simp only [List.getElem_map]
    exact (hm2.2 i hs[i].2 l[i] (by rw [List.getElem?_map, List.getElem?_eq_getElem h1]; rfl) (List.getElem?_eq_getElem h2)).1
  have hpw : hs.Pairwise (fun p q => p.2.1 ≠ q.2.1) := by
    have h := HINC.out
    rw [← hkeys, List.pairwise_map] at h
    exact h.imp (fun {a b} h e => by omega)
  have hmlt := hom2.lt
  have hsize := own_size hom2
  have B2 := below_trans HB1.out hb2
  have hsz2 := B2.size
  have HB2 := Lib.hid B2
  have OM2 := Lib.hid hom2
  have HM2 := Lib.hid hm2
  have HKEYS := Lib.hid hkeys
  have HPW := Lib.hid hpw
  have HLEN := Lib.hid hlen
  have HOB2 := Lib.hid ((B2.block ob lob).trans HOB.out)
  clear hb2 hom2 hm2 hkeys hpw hlen B2
  go_wp2_with (at_range; refine wpList_range_own _ rfl _ 110 rfl 22 92 law22 Try.underlying110 recR mb l.length (dmap hs) rfl OM2.out ?_; intro w3 hrg3 hg3 hs3)
  go_frame
  have RG3 := Lib.hid hrg3
  have B3 : Hid (Below w2.heap.size w2 w3) := ⟨hg3.os, hg3.tape, hg3.output, hg3.size, fun k hk => hg3.block k hk (by simp)⟩
  have hs3' : w2.heap.size + 1 ≤ w3.heap.size := by omega
  clear hrg3 hg3 hs3
  go_loopw [5] (fun v wr => ∃ (ts : List Int) (left : Lit → Bool) (cnt : Nat), cnt + ts.length ≤ 20 ∧ Hid (wr.ranges Try.prog 22 recR mb w2.heap.size l.length (dmap hs) left cnt) ∧ Hid (Coll (dmap hs) left ts) ∧ Hid (wr.ownsRow (w2.heap.size + 1) 3 1 v ts.length (intsC ts)) ∧ Hid (Below w2.heap.size w2 wr) ∧ w2.heap.size + 1 ≤ wr.heap.size) (fun _ wr => wr.rangeLeft mb w2.heap.size)
  case atStart => exact ⟨[], _, _, by simp; omega, RG3, Coll.start _, World.ownsRow_nil _ _ _ _, B3, hs3'⟩
  case round =>
    obtain ⟨ts, left, cnt, hcl, RG, CO, OT, BW, hszr⟩ := hrel
    clear RG3 B3
    go_wp2_with (at_next; refine wpList_next_ranges _ rfl _ rfl 22 law22 recR (Value.int .u16) mkR (fun key kl h => by obtain ⟨x, hx, -⟩ := Maps.keyOf_int_inv Try.underlying22 h; exact ⟨x, hx⟩) (fun v y h => (recR_inv h).1) mb w2.heap.size l.length (dmap hs) left cnt rfl RG.out ?_ ?_)
    · intro hc0 hl0
      have hmem : ∀ x, x ∈ ts ↔ x ∈ l.map Prod.fst := fun x => by
        rw [CO.out.2 x, dmap_has, ← HKEYS.out, List.mem_map]
        constructor
        · rintro ⟨⟨p, hp, e⟩, -⟩; exact ⟨p, hp, e⟩
        · rintro ⟨p, hp, e⟩; exact ⟨⟨p, hp, e⟩, hl0 _⟩
      have hsorted := sorted_types CO.out.1 HINC.out hmem
      obtain ⟨At, ct, rfl, -, -, -⟩ := Rd.of_own OT.out
      have OMr : Hid (wr.ownsMap Try.prog 22 recR mb l.length (dmap hs)) := RG.out.owns
      have hlt : ts.length = l.length := by
        have h := congrArg List.length hsorted
        rw [List.length_mergeSort, List.length_map] at h
        exact h
      have sr := sortRow_calls (w2.heap.size + 1) At ct ts wr OT.out (by omega)
      rw [hsorted, hlt] at sr
      rw [hlt]
      have hub : ∀ g, (Value.slice At l.length ct).ownBlock = some g → w2.heap.size + 1 ≤ g := fun g e => by
        have h := OT.out
        rw [hlt] at h
        exact (own_block h g e).1
      have SR := Lib.hid sr
      have HUB := Lib.hid hub
      clear sr hl0 hc0 hmem hsorted hlt hub
      go_wp2_with fail
      refine SR.out.mono ?_
      rintro e w4 ⟨rfl, hot4, hg4⟩
      have OM4 : Hid (w4.ownsMap Try.prog 22 recR mb l.length (dmap hs)) := OMr.out.kept hg4 (fun e => by have := HUB.out mb e.symm; omega)
      have B4 : Hid (Below w2.heap.size w2 w4) := BW.out.grown hg4 (by omega) (fun q hq => by have := HUB.out q hq; omega)
      have OT4 := Lib.hid hot4
      have hz4 := B4.out.size
      have lob2 : ob < w2.heap.size := by omega
      have HOB4 := Lib.hid ((B4.out.block ob lob2).trans HOB2.out)
      have HM4 := Lib.hid (HM2.out.below B4.out)
      have lob4 : ob < w4.heap.size := by omega
      have hatb : ∀ g o, At = some ⟨g, o, none⟩ → g ≠ ob := fun g o e h => by
        have := HUB.out g (by rw [e]; rfl)
        omega
      have HATB := Lib.hid hatb
      clear hot4 hg4 hatb
      go_wp2_with fail
      go_loopw [31] (fun i wr => ∃ k : Nat, k ≤ l.length ∧ i = .int .i64 k ∧ OutAt wr w4.heap.size ob (l.take k) ∧ w4.grownBy wr (some ob)) (fun i _ => l.length - (intOf i).toNat)
      case atStart => exact ⟨0, Nat.zero_le _, rfl, ⟨_, [], HOB4.out, World.ownsRow_nil _ _ _ _, by simp [MatchO]⟩, World.grownBy.refl _ _⟩
      case round =>
        obtain ⟨wy, rfl⟩ : ∃ wy : World, wy = wr := ⟨_, rfl⟩
        obtain ⟨k, hk, rfl, hout, hg⟩ := hrel
        have hszy := hg.size
        by_cases hltk : k < l.length
        · obtain ⟨A5, c5, e5, -, hr5, -⟩ := Rd.of_own OT4.out
          injection e5 with e51 e52 e53
          subst e51 e53
          obtain ⟨b, o, rfl, hcell⟩ := hr5 (fun e => by have h := congrArg List.length e; rw [intsC, List.length_map, List.length_map, List.length_nil] at h; omega)
          have hbo := HATB.out b o rfl
          have e0 := hcell k (.int .i64 l[k].1) (by simp [intsC, List.getElem?_eq_getElem hltk])
          have f0 := cell_except hg HOB4.out e0 (fun e => absurd e hbo)
          have hkh : k < hs.length := by rw [HLEN.out]; exact hltk
          obtain ⟨h1, h2⟩ := HM4.out.2 k hs[k].2 l[k] (by rw [List.getElem?_map, List.getElem?_eq_getElem hkh]; rfl) (List.getElem?_eq_getElem hltk)
          have hxo := HOK.out _ (List.getElem_mem hltk)
          have hT : 0 ≤ hs[k].2.1 ∧ hs[k].2.1 ≤ 65535 := by rw [h1]; exact ⟨hxo.1, hxo.2.1⟩
          have omy : wy.ownsMap Try.prog 22 recR mb l.length (dmap hs) := OM4.out.kept hg (fun e => by
            injection e with e
            obtain ⟨es, cl, hmb2, _⟩ := OM4.out
            rw [e, HOB4.out] at hmb2
            cases hmb2)
          have hlook := look_at omy HPW.out hs[k] (List.getElem_mem hkh) hT
          have hval := h2.except hg HOB4.out
          have hsnoc : l.take k ++ [l[k]] = l.take (k + 1) := (List.take_succ_eq_append_getElem hltk).symm
          obtain ⟨p, hp⟩ : ∃ p, p = hs[k] := ⟨_, rfl⟩
          rw [← hp] at h1 hval hlook hT
          obtain ⟨L, T, v⟩ := p
          obtain ⟨x, hx⟩ : ∃ x, x = l[k] := ⟨_, rfl⟩
          rw [← hx] at f0 h1 hval hxo hsnoc
          obtain ⟨T', d⟩ := x
          simp only at f0 h1 hval hlook hT
          simp only [AttrOk] at hxo
          subst h1
          obtain ⟨Ax, cx, rfl, hval2⟩ := hval
          have hval : BytesAt wy (.slice Ax d.length cx) d := ⟨Ax, cx, rfl, hval2⟩
          unfold recV at hlook
          obtain ⟨vo, hs5, hv, hown, hm⟩ := hout
          obtain ⟨Av, cv, rfl, -, -, -⟩ := Rd.of_own hown
          obtain ⟨nv, hnv⟩ : ∃ nv, nv = (l.take k).length := ⟨_, rfl⟩
          rw [← hnv] at hown hv
          have xw : IntKind.u16.wrap T = T := IntWalk.u16_in _ (by omega)
          have HVAL := Lib.hid hval
          have HX := Lib.hid hsnoc
          have HGY := Lib.hid hg
          have HOWN := Lib.hid hown
          have HMM := Lib.hid hm
          have HVV := Lib.hid hv
          have HNV := Lib.hid hnv
          have hne : 0 < l.length := by omega
          have loby := lt_of_block hv
          clear hval hval2 hsnoc hx hp hg hown hm hv hnv e0 omy hcell hr5 h2
          go_wp2_with fail
          refine (plain_calls L T (.slice Ax d.length cx) d wy HVAL.out hT (by omega)).mono ?_
          rintro e w5 ⟨v5, rfl, ho5, hb5⟩
          have z5 := hb5.size
          obtain ⟨A5', c5', rfl, -, -, -⟩ := Rd.of_own ho5
          have hv5 := (hb5.block ob loby).trans HVV.out
          have D6 : Below w5.heap.size w5 (w5.alloc (.cells #[.int .i64 T, .slice A5' d.length c5'] 52)) := (Below.refl _ _).alloc (Nat.le_refl _) _
          have D7 : Below w5.heap.size w5 ((w5.alloc (.cells #[.int .i64 T, .slice A5' d.length c5'] 52)).alloc (.cells #[.int .i64 T, .slice A5' d.length c5'] 52)) := D6.alloc D6.size _
          have z7 := D7.size
          have hv7 := (D7.block ob (lt_of_block hv5)).trans hv5
          have cb5 := cell_of_one hv5
          have cb6 := cells_one D6 cb5
          obtain ⟨A6, c6, w6, hrun, q1, q2, q3, q4, q5⟩ := out_append w4.heap.size ob (.slice Av nv cv) hs5 (l.take k) (T, .slice A5' d.length c5') (T, d) ((w5.alloc (.cells #[.int .i64 T, .slice A5' d.length c5'] 52)).alloc (.cells #[.int .i64 T, .slice A5' d.length c5'] 52)) hv7 (by rw [← HNV.out]; exact own_below (own_below HOWN.out hb5) D7) ((HMM.out.below hb5).below D7) rfl (own_below (own_lower ho5 (by omega)) D7) (w5.heap.size + 1) (by have h := cell_two_new (w5.alloc (.cells #[.int .i64 T, .slice A5' d.length c5'] 52)) (.int .i64 T) (.slice A5' d.length c5') 52; rw [show (w5.alloc (.cells #[.int .i64 T, .slice A5' d.length c5'] 52)).heap.size = w5.heap.size + 1 from by simp] at h; exact h) (by rw [List.length_take]; omega) (by simp; omega) lob4
          have Q3 := Lib.hid q3
          have Q4 := Lib.hid q4
          have HD7 := Lib.hid (below_trans hb5 D7)
          clear q3 q4 q5 D6 D7 ho5 hb5 hv5 hv7
          go_wp2_with (at_builtin; refine wpList_app rfl _ _ 41 rfl rfl rfl hrun ?_)
          go_roundw
          case rel =>
            refine ⟨k + 1, by omega, by go_num, ?_, ?_⟩
            · have h := Q3.out
              rw [HX.out, List.length_take, Nat.min_eq_left hk] at h
              exact h
            · have h := Q4.out w4 (grown_trans HGY.out (below_row HD7.out (some ob))) (Nat.le_refl _)
              rw [List.length_take, Nat.min_eq_left hk] at h
              exact h
          case measure => simp [intOf]; omega
        · have hkl : k = l.length := by omega
          subst hkl
          rw [List.take_length] at hout
          have HOUT := Lib.hid hout
          have HGY := Lib.hid hg
          clear hout hg
          go_wp2_with fail
          go_ret
          have B24 := HB2.out.trans (B4.out.mono (by omega))
          exact ⟨rfl, grown_trans (below_row B24 (some ob)) HGY.out, HOUT.out.lower B24.size⟩
    · intro x cL cT cA cn cc kl y yp w4 cnt4 hkey hlk hvv hat hrg4 hlt4 hg4 hs4 hen4
      obtain ⟨x', hx', rfl, hwf⟩ := Maps.keyOf_int_inv Try.underlying22 hkey
      injection hx' with _ hx'
      subst hx'
      have hx0 : 0 ≤ x ∧ x ≤ 65535 := by
        simp only [Lit.wf, Bool.and_eq_true, decide_eq_true_eq] at hwf
        have hmin : IntKind.u16.min = 0 := rfl
        have hmax : IntKind.u16.max = 65535 := rfl
        omega
      have xw : IntKind.i64.wrap x = x := IntWalk.i64_in _ (by omega)
      have hmr : mb < w2.heap.size := hmlt
      have otx : w4.ownsRow (w2.heap.size + 1) 3 1 u5 ts.length (intsC ts) := OT.out.kept hg4 (by
        cases ho : u5.ownBlock with
        | none => exact .inl rfl
        | some g => exact .inr (fun e => by have := (own_block OT.out g ho).1; injection e with e; omega))
      have CO4 := Lib.hid (CO.out.step hlk hat)
      have BW4 : Hid (Below w2.heap.size w2 w4) := BW.out.grown hg4 (by have := BW.out.size; omega) (fun q hq => by injection hq with hq; omega)
      have OT4 := Lib.hid otx
      have RG4 := Lib.hid hrg4
      have HS4 := Lib.hid hs4
      have hz4 : w2.heap.size + 1 ≤ w4.heap.size := by omega
      have hmeas : w4.rangeLeft mb w2.heap.size < wr.rangeLeft mb w2.heap.size := by rw [hrg4.left_eq, RG.out.left_eq]; exact hlt4
      have HMEAS := Lib.hid hmeas
      clear hkey hlk hvv hat hrg4 hg4 hs4 otx hwf hmeas
      go_wp2_with (at_builtin; go_must (refine wpList_append_own _ rfl _ _ 30 rfl (w2.heap.size + 1) 3 i0 (.int .i64 0) 1 8 Try.underlying30 hi hz0 hz1 hz2 rfl (by decide) _ _ _ rfl (by exact OT4.out.alloc _) ⟨w4.heap.size, 0, none⟩ 1 1 [.int .i64 x] rfl rfl (by exact cell_one_new _ _ _) (by intro u hu; simp at hu; subst hu; rfl) (by unfold maxLen; omega) (by omega) (by simp; omega) ?_))
      intro v' w5 hown5 hgrow5 _
      have hub : ∀ g, u5.ownBlock = some g → w2.heap.size + 1 ≤ g := fun g e => (own_block OT4.out g e).1
      have RG5 : Hid (w5.ranges Try.prog 22 recR mb w2.heap.size l.length (dmap hs) (fun z => left z && !z.sameKey (.int .u16 x)) cnt4) := (RG4.out.alloc _).kept hgrow5 (fun e => by have := hub mb e.symm; omega) (fun e => by have := hub _ e.symm; omega)
      have B5 : Hid (Below w2.heap.size w2 w5) := (BW4.out.alloc (by omega) _).grown hgrow5 (by simp; omega) (fun q hq => by have := hub q hq; omega)
      have O5 : Hid (w5.ownsRow (w2.heap.size + 1) 3 1 v' (ts ++ [x]).length (intsC (ts ++ [x]))) := by
        rw [List.length_append, List.length_singleton, intsC, List.map_append]; exact hown5
      have hz5 : w2.heap.size + 1 ≤ w5.heap.size := by have := hgrow5.size; simp at this; omega
      have hmeas5 : w5.rangeLeft mb w2.heap.size < wr.rangeLeft mb w2.heap.size := by rw [RG5.out.left_eq, RG.out.left_eq]; exact hlt4
      have HM5 := Lib.hid hmeas5
      clear hown5 hgrow5 hub hmeas5 hen4
      go_wp2_with fail
      go_roundw
      case rel => exact ⟨ts ++ [x], _, cnt4, by rw [List.length_append, List.length_singleton]; omega, RG5, CO4, O5, B5, hz5⟩
      case measure => exact HM5.out
end Go.Proofs.Ytbogknjgjbhagaa
