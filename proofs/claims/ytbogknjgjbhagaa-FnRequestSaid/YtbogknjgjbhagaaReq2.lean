/- The package's bytes of a request. -/
import Derived.Test.YtbogknjgjbhagaaReq1
namespace Go.Proofs.Ytbogknjgjbhagaa
open Go.RowKit
set_option linter.unusedSimpArgs false

theorem Try.info31 : (Try.prog.info? 31).map (fun i => (i.zero, i.size, i.bytes)) = some (some (.slice none 0 0), 1, 24) := by kernel_rfl

/-- Some bytes, noughts to the end. -/
def fill (N : Nat) (X : List Int) : List Int := X ++ List.replicate (N - X.length) 0
theorem fill_length (N : Nat) (X : List Int) (h : X.length ≤ N) : (fill N X).length = N := by simp [fill]; omega
theorem fill_full (X : List Int) : fill X.length X = X := by simp [fill]
theorem fill_zero (N : Nat) : List.replicate N (Value.int .u8 0) = bytesC (fill N []) := by simp [fill, bytesC]
theorem fill_splice (N : Nat) (X c : List Int) (_h : X.length + c.length ≤ N) : splice (bytesC (fill N X)) X.length (bytesC c) = bytesC (fill N (X ++ c)) := by
  have e1 : (fill N X).take X.length = X := by rw [fill, List.take_left' rfl]
  have e2 : (fill N X).drop (X.length + c.length) = List.replicate (N - (X ++ c).length) 0 := by
    rw [fill, List.drop_append, List.drop_eq_nil_of_le (by omega), List.drop_replicate]
    simp
    omega
  unfold splice bytesC
  rw [← List.map_take, List.length_map, ← List.map_drop, e1, e2, ← List.map_append, ← List.map_append]
  simp [fill]
theorem fill_set (N : Nat) (X : List Int) (b : Int) (h : X.length < N) : (bytesC (fill N X)).set X.length (.int .u8 b) = bytesC (fill N (X ++ [b])) := by
  have e : N - X.length = (N - (X.length + 1)) + 1 := by omega
  unfold fill bytesC
  rw [e, List.replicate_succ, List.map_append, List.set_append_right _ _ (by simp)]
  simp

theorem attrsB_few : ∀ (ks : List Tree), (∀ x ∈ ks, cost x ≤ 4000) → (attrsB ks).length ≤ ks.length * 4000
  | [], _ => by simp [attrsB]
  | x :: r, h => by
    have h1 := attrsB_few r (fun y hy => h y (by simp [hy]))
    have h2 := attrB_cost x
    have h3 := h x (by simp)
    rw [attrsB, List.length_append, List.length_cons]
    omega

/-- The bytes of the attributes so far, each in a slice of its own. -/
structure SerSt (w wr : World) (gd n k : Nat) (ks : List Tree) (vs : List Value) : Prop where
  own : wr.ownsRow w.heap.size 31 1 (.slice (some ⟨gd, 0, none⟩) n n) n vs
  each : ∀ i v x, i < k → vs[i]? = some v → ks[i]? = some x → BytesF wr (fun b => w.heap.size ≤ b ∧ b < wr.heap.size ∧ b ≠ gd) v (attrB x)
  below : Below w.heap.size w wr

theorem SerSt.next {w wr w5 : World} {gd n k : Nat} {ks : List Tree} {vs : List Value} (h : SerSt w wr gd n k ks vs) (hgd : gd < wr.heap.size) (hk : k < n) {v : Value} {x : Tree} (hx : ks[k]? = some x) (hown : w5.ownsRow wr.heap.size 5 1 v (attrB x).length (bytesC (attrB x))) (hb : Below wr.heap.size wr w5) (hn : vs.length = n) :
    SerSt w (w5.setCell ⟨gd, k, none⟩ v) gd n (k + 1) ks (vs.set k v) := by
  have hz := hb.size
  have hw := h.below.size
  have hlo := (h.own.lt gd rfl).1
  have hsz : (w5.setCell ⟨gd, k, none⟩ v).heap.size = w5.heap.size := by simp [World.setCell]
  refine ⟨own_set (own_below h.own hb) k v, fun i u y hi e1 e2 => ?_, ?_⟩
  · by_cases hik : i < k
    · rw [List.getElem?_set_ne (by omega)] at e1
      exact (h.each i u y hik e1 e2).keep fun b hF => ⟨by rw [Below.heap_setCell _ _ _ _ (by simpa using hF.2.2)]; exact hb.block b hF.2.1, hF.1, by rw [hsz]; omega, hF.2.2⟩
    · obtain rfl : i = k := by omega
      rw [List.getElem?_set_self (by omega)] at e1
      rw [hx] at e2
      injection e1 with e1
      injection e2 with e2
      subst e1 e2
      exact (own_bytesF hown).keep fun b hF => ⟨by rw [Below.heap_setCell _ _ _ _ (by simp; omega)], by omega, by rw [hsz]; exact hF.2, by omega⟩
  · exact (h.below.trans (hb.mono hw)).setCell hlo _

theorem grown_new {w w1 w2 : World} {row : Option Nat} {g : Nat} (h : w.grownBy w1 row) (k : w1.grownBy w2 (some g)) (hg : w.heap.size ≤ g) : w.grownBy w2 row :=
  ⟨k.os.trans h.os, k.tape.trans h.tape, k.output.trans h.output, Nat.le_trans h.size k.size, fun i hi hne => (k.block i (Nat.lt_of_lt_of_le hi h.size) (by simp; omega)).trans (h.block i hi hne)⟩

set_option maxHeartbeats 4000000 in
set_option maxRecDepth 100000 in
theorem serReq_calls (w : World) (F : Nat → Prop) (p : Nat) (t f s : Int) (A A' : Option Addr) (c c' : Nat) (ks : List Tree) (raw : List Int) (hp : ReqAt w p 16 t f s (.slice A' ks.length c') (.slice A raw.length c))
    (hks : ks ≠ [] → ∃ bb o, A' = some ⟨bb, o, none⟩ ∧ F bb ∧ KsAt w F bb o ks) (hby : BytesF w F (.slice A raw.length c) raw) (hF : ∀ g, F g → g < w.heap.size ∧ g ≠ p) (hgood : Goods ks) (hcost : ∀ x ∈ ks, cost x ≤ 4000)
    (hn : ks.length ≤ 10) (hraw : raw.length ≤ 200) (ht : 0 ≤ t ∧ t < 65536) (hf : 0 ≤ f ∧ f < 65536) (hs : 0 ≤ s ∧ s < 4294967296) :
    Calls Try.prog 68 #[.pointer (some ⟨p, 0, none⟩)] w fun e w' => ∃ v, e = .returned v ∧
      w'.ownsRow w.heap.size 5 1 v (16 + (attrsB ks ++ raw).length) (bytesC (lowB (16 + (attrsB ks ++ raw).length : Nat) 4 ++ lowB t 2 ++ lowB f 2 ++ lowB s 4 ++ lowB 0 4 ++ (attrsB ks ++ raw))) ∧ w.grownBy w' (some p) := by
  obtain ⟨i0, hi, hz0, hz1, hz2⟩ := info_parts Try.info5
  obtain ⟨i1, hi1, hy0, hy1, hy2⟩ := info_parts Try.info31
  have hfew := attrsB_few ks hcost
  have lp := lt_of_block hp
  have c5 : w.cell? ⟨p, 5, none⟩ = some (.slice A' ks.length c') := (cell_of_row _ _ 5 _ _ (0, 0) hp).trans rfl
  have HP := Lib.hid hp
  have HKS := Lib.hid hks
  have HBY := Lib.hid hby
  have HF := Lib.hid hF
  have HG := Lib.hid hgood
  have HC := Lib.hid hcost
  clear hp hks hby hF hgood hcost
  obtain ⟨n, hnn⟩ : ∃ n, n = ks.length := ⟨_, rfl⟩
  rw [← hnn] at c5 hn hfew
  have HN := Lib.hid hnn
  clear hnn
  go_enter Try.func68, Try.ntmps68
  go_wp2_with (at_make; go_must (refine wpList_make_full _ rfl _ _ 137 rfl w.heap.size 31 i1 (.slice none 0 0) 1 Try.underlying137 hi1 hy0 hy1 .i64 .i64 _ _ n rfl rfl (by omega) (by omega) (by rw [hy2]; omega) (by unfold maxLen; omega) (Nat.le_refl _) ?_))
  intro w1 hown hgrow
  rw [toList_madeCells_one] at hown
  have B1 : Below w.heap.size w w1 := (Below.refl _ w).grown hgrow (Nat.le_refl _) (by intro k hk; cases hk)
  obtain ⟨gd, hgd⟩ : ∃ gd, gd = w.heap.size := ⟨_, rfl⟩
  have hgd1 : gd < w1.heap.size := by rw [hgd]; exact own_lt hown rfl
  rw [← hgd]
  have ST1 : Hid (SerSt w w1 gd n 0 ks (List.replicate n (.slice none 0 0))) := ⟨by rw [hgd]; exact hown, fun i v x h => absurd h (by omega), B1⟩
  have c51 := cells_one B1 c5
  have hgdl : w.heap.size ≤ gd := by omega
  clear hown hgrow B1 hgd
  go_wp2_with fail
  go_loopw [3, 25] (fun s i wr => ∃ (k : Nat) (vs : List Value), k ≤ n ∧ i = .int .i64 (k : Nat) ∧ s = .int .i64 ((16 + (attrsB (ks.take k)).length : Nat) : Int) ∧ Hid (SerSt w wr gd n k ks vs) ∧ Hid (vs.length = n) ∧ gd < wr.heap.size) (fun _ i _ => n - (intOf i).toNat)
  case atStart => exact ⟨0, _, Nat.zero_le _, rfl, by simp [attrsB], ST1, Lib.hid (by simp), hgd1⟩
  case round =>
    obtain ⟨k, vs, hk, rfl, rfl, ST, HVL, hgr⟩ := hrel
    clear ST1
    have hszr := ST.out.below.size
    by_cases hlt : k < n
    · have hltk : k < ks.length := by rw [← HN.out]; exact hlt
      obtain ⟨bb, o, rfl, hFb, hkk⟩ := HKS.out (by rintro rfl; simp at hltk)
      obtain ⟨g1, e1w, hkid⟩ := KsAt.get ks bb o k hltk hkk
      have e1 := cells_one ST.out.below e1w
      have hle2 := attrsB_take_le ks (k + 1)
      have hsn : attrsB (ks.take (k + 1)) = attrsB (ks.take k) ++ attrB ks[k] := by
        rw [List.take_succ_eq_append_getElem hltk, attrsB_append]; simp [attrsB]
      have hgk := Goods.mem hltk HG.out
      have hcm := HC.out _ (List.getElem_mem hltk)
      have hxk : ks[k]? = some ks[k] := List.getElem?_eq_getElem hltk
      obtain ⟨T1, hT1⟩ : ∃ T1, T1 = ks[k] := ⟨_, rfl⟩
      rw [← hT1] at hkid hcm hsn hgk hxk
      have sc := ser_calls T1 wr F g1 (RAt.keep (fun g' hg' => ⟨ST.out.below.block g' (HF.out g' hg').1, hg'⟩) _ _ hkid) (fun g' hg' => by have := (HF.out g' hg').1; omega) hgk hcm
      rw [hsn, List.length_append] at hle2
      have SC := Lib.hid sc
      have HSN := Lib.hid hsn
      have HXK := Lib.hid hxk
      obtain ⟨n0, hn0⟩ : ∃ n0, n0 = (attrsB (ks.take k)).length := ⟨_, rfl⟩
      rw [← hn0] at hle2
      rw [← hn0]
      obtain ⟨q1, hq1⟩ : ∃ q1, q1 = (attrB T1).length := ⟨_, rfl⟩
      rw [← hq1] at hle2 SC
      have HQ1 := Lib.hid hq1
      have HN0 := Lib.hid hn0
      clear hT1 hkid hgk sc hsn hn0 hq1 e1w hkk hxk
      go_wp2_with fail
      refine SC.out.mono ?_
      rintro e w5 ⟨v5, rfl, hown5, hb5⟩
      have hz5 := hb5.size
      have ho5 := own_below ST.out.own hb5
      obtain ⟨u, hu⟩ : ∃ u, w5.cell? ⟨gd, k, none⟩ = some u := by
        rw [ho5.cellAt _ (by omega)]; exact ⟨_, List.getElem?_eq_getElem (by rw [HVL.out]; exact hlt)⟩
      have hf5 := ho5.frozenAt k
      rw [HQ1.out] at hown5
      have ST5 := Lib.hid (ST.out.next hgr hlt HXK.out hown5 hb5 HVL.out)
      rw [← HQ1.out] at hown5
      obtain ⟨A5, c5', rfl, -, -, -⟩ := Rd.of_own hown5
      clear hown5 hb5 ho5
      go_wp2_with fail
      go_roundw
      case rel =>
        refine ⟨k + 1, _, by omega, by go_num, ?_, ST5, Lib.hid (by rw [List.length_set]; exact HVL.out), by simp [World.setCell]; omega⟩
        rw [HSN.out, List.length_append, ← HN0.out, ← HQ1.out]; go_num
      case measure => simp [intOf]; omega
    · obtain rfl : n = k := by omega
      obtain ⟨wz, rfl⟩ : ∃ wz : World, wz = wr := ⟨_, rfl⟩
      have hkl : ks.take n = ks := by rw [HN.out, List.take_length]
      rw [hkl]
      clear hkl
      have hpr : ReqAt wz p 16 t f s (.slice A' ks.length c') (.slice A raw.length c) := (ST.out.below.block p lp).trans HP.out
      have c0 : wz.cell? ⟨p, 0, none⟩ = some (.int .u32 16) := (cell_of_row _ _ 0 _ _ (0, 0) hpr).trans rfl
      have f0 : wz.frozen? ⟨p, 0, none⟩ = false := frozen_of_row _ _ 0 _ _ hpr
      have c6 : wz.cell? ⟨p, 6, none⟩ = some (.slice A raw.length c) := (cell_of_row _ _ 6 _ _ (0, 0) hpr).trans rfl
      obtain ⟨n0, hn0⟩ : ∃ n0, n0 = (attrsB ks).length := ⟨_, rfl⟩
      rw [← hn0]
      rw [← hn0] at hfew
      obtain ⟨r, hr⟩ : ∃ r, r = raw.length := ⟨_, rfl⟩
      rw [← hr] at c6 hraw
      obtain ⟨N, hN⟩ : ∃ N, N = 16 + n0 + r := ⟨_, rfl⟩
      have hN1 : (16 : Int) + (n0 : Int) + (r : Int) = (N : Int) := by omega
      have hN2 : N ≤ 100000 := by omega
      have hN3 : IntKind.u32.wrap (N : Int) = (N : Int) := IntWalk.u32_in _ (by omega)
      have HN0 := Lib.hid hn0
      have HR := Lib.hid hr
      have HNN := Lib.hid hN
      have HPR := Lib.hid hpr
      clear hn0 hr hN hpr c5 c51
      go_wp2_with (at_make; go_must (refine wpList_make_full _ rfl _ _ 31 rfl w.heap.size 5 i0 (.int .u8 0) 1 Try.underlying31 hi hz0 hz1 .i64 .i64 _ _ N rfl rfl (by omega) (by omega) (by rw [hz2]; omega) (by unfold maxLen; omega) (by simp [World.setCell]; omega) ?_))
      intro w3 hown hgrow
      rw [toList_madeCells_one, fill_zero] at hown
      have hsz : (wz.setCell ⟨p, 0, none⟩ (.int .u32 N)).heap.size = wz.heap.size := by simp [World.setCell]
      have hgx := own_full hown
      obtain ⟨gb, hgb⟩ : ∃ gb, gb = wz.heap.size := ⟨_, rfl⟩
      rw [← hgb] at hgx
      rw [← hgb]
      have hgbl : gb < w3.heap.size := lt_of_block hgx
      have hg3 : wz.grownBy w3 (some p) := ⟨hgrow.os, hgrow.tape, hgrow.output, by have := hgrow.size; rw [hsz] at this; exact this, fun k hk hne => (hgrow.block k (by rw [hsz]; exact hk) (by simp)).trans (Below.heap_setCell _ _ _ _ (fun e => hne (by simp at e; rw [e])))⟩
      have hp3 : ReqAt w3 p N t f s (.slice A' ks.length c') (.slice A raw.length c) := (hgrow.block p (by rw [hsz]; omega) (by simp)).trans (heap_setCell_same wz p 0 _ _ _ HPR.out)
      have HP3 := Lib.hid hp3
      have HG3 := Lib.hid hg3
      have HGX3 := Lib.hid hgx
      have hz3 := hg3.size
      have hpgb : p < gb := by omega
      have hgbw : w.heap.size ≤ gb := by omega
      have hgdgb : gd < gb := by omega
      have hec := encHdr_calls p N t f s 0 w3 (by omega) ht hf hs (by omega) ((cell_of_row _ _ 0 _ _ (0, 0) hp3).trans rfl) ((cell_of_row _ _ 1 _ _ (0, 0) hp3).trans rfl) ((cell_of_row _ _ 2 _ _ (0, 0) hp3).trans rfl) ((cell_of_row _ _ 3 _ _ (0, 0) hp3).trans rfl) ((cell_of_row _ _ 4 _ _ (0, 0) hp3).trans rfl)
      have HEC := Lib.hid hec
      have HGB := Lib.hid hgb
      clear hown hgrow hgx hg3 hp3 hec c0 f0 c6 hsz hgb
      go_wp2_with fail
      refine HEC.out.mono ?_
      rintro e w4 ⟨v4, rfl, hown4, hb4⟩
      obtain ⟨hd, hhd⟩ : ∃ hd, hd = lowB N 4 ++ lowB t 2 ++ lowB f 2 ++ lowB s 4 ++ lowB 0 4 := ⟨_, rfl⟩
      have hdl : hd.length = 16 := by rw [hhd]; simp
      rw [← hhd] at hown4
      obtain ⟨A4, c4, rfl, hc4, hr4, hn4⟩ := Rd.of_own hown4
      have hz4 := hb4.size
      have hgx4 := (hb4.block gb hgbl).trans HGX3.out
      obtain ⟨vc, w5, hrun, hgx5, hb5, hg5, hs5⟩ := copy_into w.heap.size gb N 0 (fill N []) (some ⟨gb, 0, none⟩) 16 N A4 c4 hd w4 hgx4 (fill_length N [] (by simp)) (by omega) (by omega) (fun _ => rfl) hr4 hgbw
      rw [hdl] at hrun
      have hspl := fill_splice N [] hd (by simp; omega)
      rw [List.length_nil, List.nil_append] at hspl
      rw [hspl] at hgx5
      have hp5 : ReqAt w5 p N t f s (.slice A' ks.length c') (.slice A raw.length c) := (hg5.block p (by omega) (by simp; omega)).trans ((hb4.block p (by omega)).trans HP3.out)
      have hg35 := grown_new (grown_trans HG3.out (below_row hb4 (some p))) hg5 (by have := HGB.out; omega)
      have GR5 := Lib.hid hg35
      have HGX5 := Lib.hid hgx5
      have HP5 := Lib.hid hp5
      have HHD := Lib.hid hhd
      have HDL := Lib.hid hdl
      clear hown4 hb4 hgx4 hgx5 hb5 hg5 hspl hp5 hg35 hhd hdl hr4 hn4
      have zq : (16 : Int) ≤ (N : Int) := by omega
      go_wp2_with (at_builtin; refine wpList_copy_any rfl _ _ 31 rfl rfl rfl hrun ?_)
      clear hrun
      go_loopw [9, 69] (fun s' i wx => ∃ k : Nat, k ≤ n ∧ i = .int .i64 (k : Nat) ∧ s' = .int .i64 ((16 + (attrsB (ks.take k)).length : Nat) : Int) ∧ Hid (wx.heap[gb]? = some (.cells (bytesC (fill N (hd ++ attrsB (ks.take k)))).toArray 5 (0, 0))) ∧ Hid (wz.grownBy wx (some p)) ∧ Hid (ReqAt wx p N t f s (.slice A' ks.length c') (.slice A raw.length c))) (fun _ i _ => n - (intOf i).toNat)
      case atStart => exact ⟨0, Nat.zero_le _, rfl, by simp [attrsB], by simpa [attrsB] using HGX5, GR5, HP5⟩
      case round =>
        obtain ⟨wx, rfl⟩ : ∃ wx : World, wx = wr := ⟨_, rfl⟩
        obtain ⟨k, hk, rfl, rfl, HB, GR, HPX⟩ := hrel
        clear HGX5 GR5 HP5
        have hzx := GR.out.size
        by_cases hlt : k < n
        · have hltk : k < ks.length := by rw [← HN.out]; exact hlt
          have hkv : k < vs.length := by rw [HVL.out]; exact hlt
          have hle2 := attrsB_take_le ks (k + 1)
          have hsn : attrsB (ks.take (k + 1)) = attrsB (ks.take k) ++ attrB ks[k] := by
            rw [List.take_succ_eq_append_getElem hltk, attrsB_append]; simp [attrsB]
          have hev := ST.out.each k vs[k] ks[k] hlt (List.getElem?_eq_getElem hkv) (List.getElem?_eq_getElem hltk)
          have hcv : wz.cell? ⟨gd, k, none⟩ = some vs[k] := by
            rw [ST.out.own.cellAt _ (by omega)]; exact List.getElem?_eq_getElem hkv
          obtain ⟨T1, hT1⟩ : ∃ T1, T1 = ks[k] := ⟨_, rfl⟩
          obtain ⟨v1, hv1⟩ : ∃ v1, v1 = vs[k] := ⟨_, rfl⟩
          rw [← hT1] at hsn hev
          rw [← hv1] at hev hcv
          have hq0 : 0 < (attrB T1).length := by
            obtain ⟨t', d', k'⟩ := T1
            rw [attrB_len]; omega
          obtain ⟨Av, cv, rfl, hcv1, -, hcells⟩ := hev
          obtain ⟨b, o, rfl, hFb, hcell⟩ := hcells (List.length_pos_iff.1 hq0)
          have hcx : wx.cell? ⟨gd, k, none⟩ = some (.slice (some ⟨b, o, none⟩) (attrB T1).length cv) := (World.cell?_of_block (a := ⟨gd, k, none⟩) (GR.out.block gd hgr (by simp; omega))).trans hcv
          rw [hsn, List.length_append] at hle2
          have HSN := Lib.hid hsn
          have HCELL := Lib.hid hcell
          obtain ⟨X0, hX0⟩ : ∃ X0, X0 = attrsB (ks.take k) := ⟨_, rfl⟩
          rw [← hX0] at hle2 HB HSN
          rw [← hX0]
          obtain ⟨n1, hn1⟩ : ∃ n1, n1 = X0.length := ⟨_, rfl⟩
          rw [← hn1] at hle2
          rw [← hn1]
          obtain ⟨q1, hq1⟩ : ∃ q1, q1 = (attrB T1).length := ⟨_, rfl⟩
          rw [← hq1] at hle2 hcx hcv1 hq0
          rw [← HN0.out] at hle2
          have HQ1 := Lib.hid hq1
          have HN1 := Lib.hid hn1
          have hFb1 := hFb.1
          have hFb2 := hFb.2.1
          clear hT1 hv1 hsn hcell hcells hcv hX0 hn1 hq1 hFb
          go_wp2_with fail
          go_loopw [9, 75] (fun s' i wy => ∃ j : Nat, j ≤ q1 ∧ i = .int .i64 (j : Nat) ∧ s' = .int .i64 ((16 + n1 + j : Nat) : Int) ∧ Hid (wy.heap[gb]? = some (.cells (bytesC (fill N (hd ++ X0 ++ (attrB T1).take j))).toArray 5 (0, 0))) ∧ Hid (wz.grownBy wy (some p)) ∧ Hid (ReqAt wy p N t f s (.slice A' ks.length c') (.slice A raw.length c))) (fun _ i _ => q1 - (intOf i).toNat)
          case atStart => exact ⟨0, Nat.zero_le _, rfl, by simp, by simpa using HB, GR, HPX⟩
          case round =>
            obtain ⟨wy, rfl⟩ : ∃ wy : World, wy = wr := ⟨_, rfl⟩
            obtain ⟨j, hj, rfl, rfl, HBj, GRj, HPj⟩ := hrel
            clear hcx HB GR HPX
            have hzy := GRj.out.size
            have hgby := lt_of_block HBj.out
            by_cases hlj : j < q1
            · have hjb : j < (attrB T1).length := by rw [← HQ1.out]; exact hlj
              have hcj := HCELL.out j (.int .u8 (attrB T1)[j]) (by simp [bytesC, List.getElem?_eq_getElem hjb])
              have hcy : wy.cell? ⟨b, o + j, none⟩ = some (.int .u8 (attrB T1)[j]) := (World.cell?_of_block (a := ⟨b, o + j, none⟩) (GRj.out.block b hFb2 (by simp; omega))).trans hcj
              have hXl : (hd ++ X0 ++ (attrB T1).take j).length = 16 + n1 + j := by simp [HDL.out, ← HN1.out, ← HQ1.out]; omega
              have hsnj : (attrB T1).take (j + 1) = (attrB T1).take j ++ [(attrB T1)[j]] := List.take_succ_eq_append_getElem hjb
              have hoy : wy.ownsRow w.heap.size 5 1 (.slice (some ⟨gb, 0, none⟩) N N) N (bytesC (fill N (hd ++ X0 ++ (attrB T1).take j))) := own_of_full HBj.out (by rw [bytesC_length, fill_length _ _ (by rw [hXl]; omega)]) hgbw (by unfold maxLen; omega)
              obtain ⟨u, hu⟩ : ∃ u, wy.cell? ⟨gb, 16 + n1 + j, none⟩ = some u := by
                rw [hoy.cellAt _ (by omega)]; exact ⟨_, List.getElem?_eq_getElem (by rw [bytesC_length, fill_length _ _ (by rw [hXl]; omega)]; omega)⟩
              have hfu := hoy.frozenAt (16 + n1 + j)
              have hset := own_full (own_set hoy (16 + n1 + j) (.int .u8 (attrB T1)[j]))
              rw [← hXl, fill_set _ _ _ (by rw [hXl]; omega), hXl, List.append_assoc (hd ++ X0), ← hsnj] at hset
              have HSET := Lib.hid hset
              obtain ⟨y, hy⟩ : ∃ y, y = (attrB T1)[j] := ⟨_, rfl⟩
              rw [← hy] at hcy HSET
              have hsy : ∀ u', (wy.setCell ⟨gb, 16 + n1 + j, none⟩ u').heap.size = wy.heap.size := fun u' => by simp [World.setCell]
              have GRs : Hid (wz.grownBy (wy.setCell ⟨gb, 16 + n1 + j, none⟩ (.int .u8 y)) (some p)) := ⟨GRj.out.os, GRj.out.tape, GRj.out.output, by rw [hsy]; exact hzy, fun q hq hne => by rw [Below.heap_setCell _ _ _ _ (by simp; have := HGB.out; omega)]; exact GRj.out.block q hq hne⟩
              have HPs : Hid (ReqAt (wy.setCell ⟨gb, 16 + n1 + j, none⟩ (.int .u8 y)) p N t f s (.slice A' ks.length c') (.slice A raw.length c)) := (Below.heap_setCell _ _ _ _ (by simp; omega)).trans HPj.out
              clear hcj hXl hsnj hoy hset hy hsy
              go_wp2_with fail
              go_roundw
              case rel => exact ⟨j + 1, by omega, by go_num, by go_num, HSET, GRs, HPs⟩
              case measure => simp [intOf]; omega
            · obtain rfl : q1 = j := by omega
              have htk : (attrB T1).take q1 = attrB T1 := by rw [HQ1.out, List.take_length]
              rw [htk, List.append_assoc, ← HSN.out] at HBj
              clear htk
              go_wp2_with fail
              go_roundw
              case rel =>
                refine ⟨k + 1, by omega, by go_num, ?_, HBj, GRj, HPj⟩
                rw [HSN.out, List.length_append, ← HN1.out, ← HQ1.out]; go_num
              case measure => simp [intOf]; omega
        · obtain rfl : n = k := by omega
          have hkl : ks.take n = ks := by rw [HN.out, List.take_length]
          rw [hkl] at HB
          rw [hkl, ← HN0.out]
          clear hkl
          have c6x : wx.cell? ⟨p, 6, none⟩ = some (.slice A raw.length c) := (cell_of_row _ _ 6 _ _ (0, 0) HPX.out).trans rfl
          rw [← HR.out] at c6x
          have hXl : (hd ++ attrsB ks).length = 16 + n0 := by rw [List.length_append, HDL.out, ← HN0.out]
          have hgwx := grown_trans (below_row ST.out.below (some p)) GR.out
          have hNl : N = 16 + (attrsB ks ++ raw).length := by rw [HNN.out, List.length_append, ← HN0.out, ← HR.out]; omega
          have hbody : ((16 + (attrsB ks ++ raw).length : Nat) : Int) = (N : Int) := by rw [← hNl]
          have HBODY := Lib.hid hbody
          have HNL := Lib.hid hNl
          have HXL := Lib.hid hXl
          have HGWX := Lib.hid hgwx
          clear hXl hNl hbody hgwx
          by_cases h0 : r = 0
          · subst h0
            have OWN : Hid (wx.ownsRow w.heap.size 5 1 (.slice (some ⟨gb, 0, none⟩) N N) N (bytesC (fill N (hd ++ attrsB ks)))) := own_of_full HB.out (by rw [bytesC_length, fill_length _ _ (by rw [HXL.out]; omega)]) hgbw (by unfold maxLen; omega)
            go_wp2_with fail
            go_ret
            have h := OWN.out
            have hraw0 : raw = [] := List.eq_nil_of_length_eq_zero HR.out.symm
            have hfin : fill N (hd ++ attrsB ks) = hd ++ (attrsB ks ++ raw) := by
              rw [hraw0, List.append_nil, show N = (hd ++ attrsB ks).length from by have := HNN.out; rw [HXL.out]; omega, fill_full]
            refine ⟨_, rfl, ?_, HGWX.out⟩
            rw [HBODY.out, ← HNL.out, ← HHD.out, ← hfin]
            exact h
          · have hr0 : decide ((0 : Int) < (r : Int)) = true := by rw [decide_eq_true_eq]; omega
            have zl1 : (16 : Int) + (n0 : Int) ≤ (N : Int) := by omega
            have zl0 : (0 : Int) ≤ 16 + (n0 : Int) := by omega
            have zl2 : ((16 : Int) + (n0 : Int)).toNat = 16 + n0 := by omega
            have zl3 : ¬ N = 16 + n0 := by omega
            have hbt : BytesF wx (fun _ => True) (.slice A r c) raw := by
              have h := HBY.out
              rw [← HR.out] at h
              exact h.keep fun g hg => ⟨(GR.out.block g (by have := (HF.out g hg).1; omega) (by simp; exact (HF.out g hg).2)).trans (ST.out.below.block g (HF.out g hg).1), trivial⟩
            obtain ⟨vq, w7, hrun, hgx7, hb7, hg7, hs7⟩ := copy_into w.heap.size gb N (16 + n0) (fill N (hd ++ attrsB ks)) (some ⟨gb, 16 + n0, none⟩) (N - (16 + n0)) (N - (16 + n0)) A c raw wx.drew HB.out (fill_length _ _ (by rw [HXL.out]; omega)) (by rw [← HR.out]; omega) (by rw [← HR.out]; omega) (fun _ => rfl) (hbt.at_.rd.below (Below.refl _ _).drew) hgbw
            rw [← HR.out] at hrun
            have hspl := fill_splice N (hd ++ attrsB ks) raw (by rw [HXL.out, ← HR.out]; omega)
            rw [HXL.out] at hspl
            rw [hspl] at hgx7
            have c67 : w7.cell? ⟨p, 6, none⟩ = some (.slice A r c) := (World.cell?_of_block (a := ⟨p, 6, none⟩) (hg7.block p (by have := HGB.out; simp; omega) (by simp; omega))).trans c6x
            have OWN : Hid (w7.ownsRow w.heap.size 5 1 (.slice (some ⟨gb, 0, none⟩) N N) N (bytesC (fill N (hd ++ attrsB ks ++ raw)))) := own_of_full hgx7 (by rw [bytesC_length, fill_length _ _ (by rw [List.length_append, HXL.out, ← HR.out]; omega)]) hgbw (by unfold maxLen; omega)
            have HG7 := Lib.hid (grown_new (grown_trans HGWX.out (below_row (Below.refl _ wx).drew (some p))) hg7 hgbw)
            clear hbt hspl hgx7 hb7 hg7
            go_wp2_with fail
            refine wp_region_held_drew (S := fun w' => w'.cell? ⟨p, 6, none⟩ = some (.slice A r c)) (by kernel_rfl) c6x (fun hHeld => ?_)
            refine wpAnyH_take (i := 0) (oi := ?o0) (v := ?v0) ?h0 (by kernel_rfl) (by kernel_rfl) (by kernel_rfl) ?q0 (Or.inl ⟨?w0, ?y0⟩) (by assumption) ?r0
            case h0 => (simp only [List.getElem?_toArray, List.getElem?_cons_succ, List.getElem?_cons_zero] <;> rfl)
            case q0 => exact fun _ _ _ h => h
            case w0 => rfl
            case y0 => (intro w hSw; (try dsimp only at hSw); go_simp; (try with_reducible rfl))
            try simp only [Act.put, List.setIfInBounds_toArray, List.set_cons_zero, List.set_cons_succ]
            refine wpAnyH_take (i := 1) (oi := ?o1) (v := ?v1) ?h1 (by kernel_rfl) (by kernel_rfl) (by kernel_rfl) ?q1 (Or.inl ⟨?w1, ?y1⟩) (by assumption) ?r1
            case h1 => (simp only [List.getElem?_toArray, List.getElem?_cons_succ, List.getElem?_cons_zero] <;> rfl)
            case q1 => exact fun _ _ _ h => h
            case w1 => rfl
            case y1 => (intro w hSw; (try dsimp only at hSw); go_simp; (try with_reducible rfl))
            try simp only [Act.put, List.setIfInBounds_toArray, List.set_cons_zero, List.set_cons_succ]
            refine wpAnyH_take (i := 2) (oi := ?o2) (v := ?v2) ?h2 (by kernel_rfl) (by kernel_rfl) (by kernel_rfl) ?q2 (Or.inl ⟨?w2, ?y2⟩) (by assumption) ?r2
            case h2 => (simp only [List.getElem?_toArray, List.getElem?_cons_succ, List.getElem?_cons_zero] <;> rfl)
            case q2 => exact fun _ _ _ h => h
            case w2 => rfl
            case y2 => (intro w hSw; (try dsimp only at hSw); go_simp; (try with_reducible rfl))
            try simp only [Act.put, List.setIfInBounds_toArray, List.set_cons_zero, List.set_cons_succ]
            refine wpAnyH_take (i := 3) (oi := ?o3) (v := ?v3) ?h3 (by kernel_rfl) (by kernel_rfl) (by kernel_rfl) ?q3 (Or.inl ⟨?w3, ?y3⟩) (by assumption) ?r3
            case h3 => (simp only [List.getElem?_toArray, List.getElem?_cons_succ, List.getElem?_cons_zero] <;> rfl)
            case q3 => exact fun _ _ _ h => h
            case w3 => rfl
            case y3 => (intro w hSw; (try dsimp only at hSw); go_simp; (try with_reducible rfl))
            try simp only [Act.put, List.setIfInBounds_toArray, List.set_cons_zero, List.set_cons_succ]
            refine wpAnyH_take (i := 4) (oi := ?o4) (v := ?v4) ?h4 (by kernel_rfl) (by kernel_rfl) (by kernel_rfl) ?q4 (Or.inl ⟨?w4, ?y4⟩) (by assumption) ?r4
            case h4 => (simp only [List.getElem?_toArray, List.getElem?_cons_succ, List.getElem?_cons_zero] <;> rfl)
            case q4 => exact fun _ _ _ h => h
            case w4 => rfl
            case y4 => (intro w hSw; (try dsimp only at hSw); go_simp; (try with_reducible rfl))
            try simp only [Act.put, List.setIfInBounds_toArray, List.set_cons_zero, List.set_cons_succ]
            refine wpAnyH_take (i := 5) (oi := ?o5) (v := ?v5) ?h5 (by kernel_rfl) (by kernel_rfl) (by kernel_rfl) ?q5 (Or.inl ⟨?w5, ?y5⟩) (by assumption) ?r5
            case h5 => (simp only [List.getElem?_toArray, List.getElem?_cons_succ, List.getElem?_cons_zero] <;> rfl)
            case q5 => exact fun _ _ _ h => h
            case w5 => rfl
            case y5 => (intro w hSw; (try dsimp only at hSw); go_simp; (try with_reducible rfl))
            try simp only [Act.put, List.setIfInBounds_toArray, List.set_cons_zero, List.set_cons_succ]
            refine wpAnyH_take (i := 6) (oi := ?o6) (v := ?v6) ?h6 (by kernel_rfl) (by kernel_rfl) (by kernel_rfl) ?q6 (Or.inl ⟨?w6, ?y6⟩) (by assumption) ?r6
            case h6 => (simp only [List.getElem?_toArray, List.getElem?_cons_succ, List.getElem?_cons_zero] <;> rfl)
            case q6 => exact fun _ _ _ h => h
            case w6 => rfl
            case y6 => (intro w hSw; (try dsimp only at hSw); go_simp; (try with_reducible rfl))
            try simp only [Act.put, List.setIfInBounds_toArray, List.set_cons_zero, List.set_cons_succ]
            refine wpAnyH_take (i := 7) (oi := ?o7) (v := ?v7) ?h7 (by kernel_rfl) (by kernel_rfl) (by kernel_rfl) ?q7 (Or.inl ⟨?w7, ?y7⟩) (by assumption) ?r7
            case h7 => (simp only [List.getElem?_toArray, List.getElem?_cons_succ, List.getElem?_cons_zero] <;> rfl)
            case q7 => exact fun _ _ _ h => h
            case w7 => rfl
            case y7 => (intro w hSw; (try dsimp only at hSw); go_simp; (try with_reducible rfl))
            try simp only [Act.put, List.setIfInBounds_toArray, List.set_cons_zero, List.set_cons_succ]
            refine wpAnyH_ready (rs := [8]) (by kernel_rfl) (by simp) ?_
            refine AllReadyH.cons (o := ?o8) ?h8 (fun K hK => ?_) AllReadyH.nil
            case h8 => (simp only [List.getElem?_toArray, List.getElem?_cons_succ, List.getElem?_cons_zero] <;> rfl)
            refine wp_copy_any (Operand.tmp 96) (Operand.tmp 100) 31 rfl rfl rfl hrun ?_
            refine hK.out _ _ ?s8 (fun hHeld => ?_)
            case s8 => exact c67
            clear hK K
            try simp only [Act.put, List.setIfInBounds_toArray, List.set_cons_zero, List.set_cons_succ]
            refine wpAnyH_done (by kernel_rfl) ?_ _
            clear hHeld hrun
            go_wp2_with fail
            go_ret
            have h := OWN.out
            have hfin : fill N (hd ++ attrsB ks ++ raw) = hd ++ (attrsB ks ++ raw) := by
              rw [show N = (hd ++ attrsB ks ++ raw).length from by have := HNN.out; rw [List.length_append, HXL.out, ← HR.out]; omega, fill_full, List.append_assoc]
            refine ⟨_, rfl, ?_, HG7.out⟩
            rw [HBODY.out, ← HNL.out, ← HHD.out, ← hfin]
            exact h
end Go.Proofs.Ytbogknjgjbhagaa
