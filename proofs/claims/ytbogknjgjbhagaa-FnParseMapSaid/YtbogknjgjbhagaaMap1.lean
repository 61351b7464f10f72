/- The package's map of attributes: what it holds. -/
import Derived.Test.YtbogknjgjbhagaaPar5
import Derived.Maps.RangeWalk
import Derived.Maps.Views
namespace Go.Proofs.Ytbogknjgjbhagaa
open Go.RowKit
set_option linter.unusedSimpArgs false

/-- How an element reads: as itself. -/
def recR (v : Value) : Option (DataW Value × List MemPlace) :=
  match v with
  | .agg a => match a.toList with
    | [.int .u16 _, .int .u16 _, .slice _ _ _] => some (.held (.agg a), [])
    | _ => none
  | _ => none
def mkR (p : Int × Int × Option Addr × Nat × Nat) : Value := .agg #[.int .u16 p.1, .int .u16 p.2.1, .slice p.2.2.1 p.2.2.2.1 p.2.2.2.2]
theorem recR_mk (L T : Int) (A : Option Addr) (n c : Nat) : recR (.agg #[.int .u16 L, .int .u16 T, .slice A n c]) = some (.held (.agg #[.int .u16 L, .int .u16 T, .slice A n c]), []) := rfl
theorem recR_inv {v : Value} {y : DataW Value × List MemPlace} (h : recR v = some y) : (∃ p, v = mkR p) ∧ y = (.held v, []) := by
  unfold recR at h
  split at h
  · rename_i a
    split at h
    · rename_i L T A n c e
      injection h with h
      refine ⟨⟨(L, T, A, n, c), ?_⟩, h.symm⟩
      have : a = #[.int .u16 L, .int .u16 T, .slice A n c] := Array.ext' e
      rw [this]; rfl
    · cases h
  · cases h

def keyL (p : Int × Int × Value) : Lit := .int .u16 p.2.1
def recV (p : Int × Int × Value) : Value := .agg #[.int .u16 p.1, .int .u16 p.2.1, p.2.2]
def putR (D : DataW Value) (p : Int × Int × Value) : DataW Value := D.put (keyL p) (.held (recV p))
def dmap (hs : List (Int × Int × Value)) : DataW Value := hs.foldl putR (.map [])
theorem dmap_snoc (hs : List (Int × Int × Value)) (p : Int × Int × Value) : dmap (hs ++ [p]) = putR (dmap hs) p := by simp [dmap]
theorem fold_isMap : ∀ (hs : List (Int × Int × Value)) (D : DataW Value), Maps.IsMap D → Maps.IsMap (hs.foldl putR D)
  | [], _, h => h
  | p :: r, D, h => fold_isMap r (putR D p) (h.put _ _)
theorem fold_has : ∀ (hs : List (Int × Int × Value)) (D : DataW Value) (x : Int), Maps.IsMap D → (Maps.has (hs.foldl putR D) (.int .u16 x) = true ↔ Maps.has D (.int .u16 x) = true ∨ ∃ p ∈ hs, p.2.1 = x)
  | [], D, x, _ => by simp
  | p :: r, D, x, h => by
    rw [List.foldl_cons, fold_has r (putR D p) x (h.put _ _)]
    by_cases e : p.2.1 = x
    · have h1 : Maps.has (putR D p) (.int .u16 x) = true := by
        rw [← e]; exact Maps.has_put_same h (show WideAt.IsKeyLit (keyL p) from trivial) _
      simp [h1, e]
    · have h1 : Maps.has (putR D p) (.int .u16 x) = Maps.has D (.int .u16 x) := Maps.has_put_other (fun h => e (by unfold keyL at h; injection h with _ h; exact h.symm)) _
      rw [h1]
      simp [e]
theorem dmap_has (hs : List (Int × Int × Value)) (x : Int) : Maps.has (dmap hs) (.int .u16 x) = true ↔ ∃ p ∈ hs, p.2.1 = x := by
  rw [dmap, fold_has hs _ x Maps.isMap_empty]
  simp [Maps.has_eq]
theorem fold_other : ∀ (hs : List (Int × Int × Value)) (D : DataW Value) (x : Int) (z : DataW Value), (∀ p ∈ hs, p.2.1 ≠ x) → (hs.foldl putR D).atKey (.int .u16 x) z = D.atKey (.int .u16 x) z
  | [], _, _, _, _ => rfl
  | p :: r, D, x, z, h => by
    rw [List.foldl_cons, fold_other r _ x z (fun q hq => h q (by simp [hq]))]
    exact Maps.atKey_put_other (fun e => h p (by simp) (by unfold keyL at e; injection e with _ e; exact e.symm)) _ _
theorem fold_at : ∀ (hs : List (Int × Int × Value)) (D : DataW Value) (z : DataW Value), Maps.IsMap D → hs.Pairwise (fun p q => p.2.1 ≠ q.2.1) → ∀ p ∈ hs, (hs.foldl putR D).atKey (.int .u16 p.2.1) z = .held (recV p)
  | [], _, _, _, _, p, hp => by cases hp
  | q :: r, D, z, h, hw, p, hp => by
    obtain ⟨h1, h2⟩ := List.pairwise_cons.1 hw
    rw [List.foldl_cons]
    rcases List.mem_cons.1 hp with rfl | hp
    · rw [fold_other r _ _ _ (fun x hx e => h1 x hx e.symm)]
      exact Maps.atKey_put_same h (show WideAt.IsKeyLit (keyL p) from trivial) _ _
    · exact fold_at r _ z (h.put _ _) h2 p hp
theorem dmap_at (hs : List (Int × Int × Value)) (z : DataW Value) (hw : hs.Pairwise (fun p q => p.2.1 ≠ q.2.1)) (p : Int × Int × Value) (hp : p ∈ hs) : (dmap hs).atKey (.int .u16 p.2.1) z = .held (recV p) :=
  fold_at hs _ z Maps.isMap_empty hw p hp

theorem law22 : Maps.Keyed Try.prog 22 := Maps.int_keyed Try.underlying22
theorem wf16 {x : Int} (h : 0 ≤ x ∧ x ≤ 65535) : (Lit.int .u16 x).wf = true := by
  have hmin : IntKind.u16.min = 0 := rfl
  have hmax : IntKind.u16.max = 65535 := rfl
  simp only [Lit.wf, Bool.and_eq_true, decide_eq_true_eq]
  omega

def MapPost (l : List (Int × List Int)) (w : World) (e : Ending) (w' : World) : Prop :=
  ∃ mb hs, e = .returned (.tuple #[.map (some mb), .nilIface]) ∧ w'.ownsMap Try.prog 22 recR mb l.length (dmap hs) ∧ Match w' (hs.map Prod.snd) l ∧ w.heap.size ≤ mb ∧ Below w.heap.size w w'

set_option maxHeartbeats 2000000 in
set_option maxRecDepth 100000 in
theorem routeMap_calls (A : Option Addr) (n c : Nat) (l : List (Int × List Int)) (w : World) (hr : Rd w A (bytesC (listB l))) (hn : n = (listB l).length) (hc : n ≤ c) (hok : ∀ x ∈ l, AttrOk x) (hb : ∀ x ∈ l, AllB x.2) (h20 : l.length ≤ 20) (hbig : n ≤ 1000000) :
    Calls Try.prog 77 #[.slice A n c] w fun e w' => MapPost l w e w' := by
  have hmm := @run_makeMap Try.prog
  have HR := Lib.hid hr
  have HN := Lib.hid hn
  have HOK := Lib.hid hok
  have HAB := Lib.hid hb
  clear hr hn hok hb
  go_enter Try.func77, Try.ntmps77
  go_wp2_with fail
  obtain ⟨W1, hW1⟩ : ∃ W1, W1 = w.alloc (.map #[] 0) := ⟨_, rfl⟩
  have D1 : Below w.heap.size w W1 := by rw [hW1]; exact (Below.refl _ w).alloc (Nat.le_refl _) _
  have O1 : W1.ownsMap Try.prog 22 recR w.heap.size 0 (dmap []) := by rw [hW1]; exact World.ownsMap_made w Try.prog 22 recR
  have hsz1 : W1.heap.size = w.heap.size + 1 := by rw [hW1]; simp
  rw [← hW1]
  clear hW1
  have HD1 := Lib.hid D1
  have HO1 := Lib.hid O1
  clear D1 O1
  refine (route_calls A n c l [] W1 (by rw [List.append_nil]; exact HR.out.below HD1.out) (by rw [List.append_nil]; exact HN.out) hc HOK.out HAB.out h20 (.inl rfl) hbig).mono ?_
  rintro e w2 ⟨hb2, he, -⟩
  obtain ⟨v2, hs2, rfl, hown2, hm2⟩ := he rfl
  obtain ⟨A2, c2, rfl, hc2, hr2, -⟩ := Rd.of_own hown2
  have hbb : ∀ b o, A2 = some ⟨b, o, none⟩ → W1.heap.size ≤ b := fun b o e => (hown2.lt b (by rw [e]; rfl)).1
  have HBB := Lib.hid hbb
  have HB2 := Lib.hid hb2
  have HR2 := Lib.hid hr2
  have HM2 := Lib.hid hm2
  have OM2 := Lib.hid (HO1.out.kept (below_row hb2 none) (by simp))
  have hz2 := hb2.size
  have hlen : hs2.length = l.length := by have := hm2.1; rwa [List.length_map] at this
  have HLEN := Lib.hid hlen
  clear hb2 he hown2 hr2 hm2 hbb hlen
  go_wp2_with fail
  go_loopw [20] (fun i wr => ∃ k : Nat, k ≤ l.length ∧ i = .int .i64 (k : Nat) ∧ Hid (wr.ownsMap Try.prog 22 recR w.heap.size k (dmap (hs2.take k))) ∧ Hid (w2.grownBy wr (some w.heap.size))) (fun i _ => l.length - (intOf i).toNat)
  case atStart => exact ⟨0, Nat.zero_le _, rfl, by simpa using OM2, World.grownBy.refl _ _⟩
  case round =>
    obtain ⟨k, hk, rfl, OM, GR⟩ := hrel
    have hszr := GR.out.size
    by_cases hlt : k < l.length
    · have hkh : k < hs2.length := by rw [HLEN.out]; exact hlt
      have e : hs2[k]? = some hs2[k] := List.getElem?_eq_getElem hkh
      obtain ⟨h1, h2⟩ := HM2.out.2 k hs2[k].2 l[k] (by rw [List.getElem?_map, e]; rfl) (List.getElem?_eq_getElem hlt)
      have hxo := HOK.out _ (List.getElem_mem hlt)
      obtain ⟨b, o, rfl, hcell⟩ := HR2.out (by
        intro h
        have := congrArg List.length h
        rw [fl_length tripH 3 tripH_length] at this
        rw [List.length_nil] at this; omega)
      have hbn := HBB.out b o rfl
      have c0 := hcell (k * 3 + 0) (.int .u16 hs2[k].1) (by rw [fl_get tripH 3 tripH_length hs2 k 0 _ e (by decide)]; rfl)
      have c1 := hcell (k * 3 + 1) (.int .u16 hs2[k].2.1) (by rw [fl_get tripH 3 tripH_length hs2 k 1 _ e (by decide)]; rfl)
      have c2' := hcell (k * 3 + 2) hs2[k].2.2 (by rw [fl_get tripH 3 tripH_length hs2 k 2 _ e (by decide)]; rfl)
      have hsn : hs2.take (k + 1) = hs2.take k ++ [hs2[k]] := List.take_succ_eq_append_getElem hkh
      have hT : 0 ≤ hs2[k].2.1 ∧ hs2[k].2.1 ≤ 65535 := by rw [h1]; exact ⟨hxo.1, hxo.2.1⟩
      obtain ⟨p, hp⟩ : ∃ p, p = hs2[k] := ⟨_, rfl⟩
      rw [← hp] at c0 c1 c2' hsn hT h2
      obtain ⟨L, T, v⟩ := p
      simp only at c0 c1 c2' hT h2
      obtain ⟨Ax, cx, rfl, -⟩ := h2
      have hblk := GR.out.block b (World.block_lt_of_cell? w2 _ c0) (by simp; omega)
      have f0 : wr.cell? ⟨b, o + k * 3, none⟩ = some (.int .u16 L) := (World.cell?_of_block (a := ⟨b, o + k * 3, none⟩) hblk).trans c0
      have f1 : wr.cell? ⟨b, o + k * 3 + 1, none⟩ = some (.int .u16 T) := (World.cell?_of_block (a := ⟨b, o + k * 3 + 1, none⟩) hblk).trans c1
      have f2 : wr.cell? ⟨b, o + k * 3 + 2, none⟩ = some (.slice Ax l[k].2.length cx) := (World.cell?_of_block (a := ⟨b, o + k * 3 + 2, none⟩) hblk).trans c2'
      obtain ⟨q, hq⟩ : ∃ q, q = l[k].2.length := ⟨_, rfl⟩
      rw [← hq] at f2 hsn
      have hkey : keyOf Try.prog 22 (.int .u16 T) = some (.int .u16 T) := Maps.keyOf_int_mk Try.underlying22 (wf16 hT)
      have HKEY := Lib.hid hkey
      have HSN := Lib.hid hsn
      have hne : 0 < l.length := by omega
      clear c0 c1 c2' hsn hp e h1 hblk hcell hkey hq hxo
      go_wp2_with (at_mapUpdate; refine wpList_mapUpdate_own _ rfl _ _ _ 110 rfl 22 92 law22 Try.underlying110 recR w.heap.size k _ rfl (OM.out.alloc _) (by unfold maxLen; omega) _ _ (.int .u16 T) rfl rfl HKEY.out (.held (.agg #[.int .u16 L, .int .u16 T, .slice Ax q cx])) [] (recR_mk L T Ax q cx) ?_; intro w5 hown5 hgrow5)
      have GR5 : Hid (w2.grownBy w5 (some w.heap.size)) := grown_trans (grown_trans GR.out (World.grownBy_alloc wr _ (some w.heap.size))) hgrow5
      have OM5 : Hid (w5.ownsMap Try.prog 22 recR w.heap.size (k + 1) (dmap (hs2.take (k + 1)))) := by
        rw [HSN.out, dmap_snoc]; exact hown5
      clear hown5 hgrow5
      go_wp2_with fail
      go_roundw
      case rel => exact ⟨k + 1, by omega, by go_num, OM5, GR5⟩
      case measure => simp [intOf]; omega
    · have hkl : k = l.length := by omega
      subst hkl
      have htk : hs2.take l.length = hs2 := List.take_of_length_le (by rw [HLEN.out]; exact Nat.le_refl _)
      rw [htk] at OM
      clear htk
      have BW : Below w.heap.size w wr := ((HD1.out.trans (HB2.out.mono (by omega))).grown GR.out (by omega) (fun q hq => by injection hq with hq; omega))
      have HBW := Lib.hid BW
      have hmw : Match wr (hs2.map Prod.snd) l := ⟨HM2.out.1, fun i p x e1 e2 => by
        obtain ⟨q1, A', c', q2, q3, q4, q5⟩ := HM2.out.2 i p x e1 e2
        refine ⟨q1, A', c', q2, q3, fun hne => ?_, q5⟩
        obtain ⟨b, o, q6, q7⟩ := q4 hne
        refine ⟨b, o, q6, fun j u hj => ?_⟩
        have q8 := q7 j u hj
        have hblt := World.block_lt_of_cell? w2 _ q8
        refine (World.cell?_of_block (a := ⟨b, o + j, none⟩) (GR.out.block b hblt (fun e => ?_))).trans q8
        injection e with e
        obtain ⟨es, cl, hmb, _⟩ := OM2.out
        rw [World.cell?, e, hmb] at q8
        simp at q8⟩
      have HMW := Lib.hid hmw
      clear BW hmw
      go_wp2_with fail
      refine bodyPost_ret (v := .tuple #[.map (some w.heap.size), .nilIface]) (by simp [results, Try.results77, go_sem]) rfl ⟨_, hs2, rfl, OM.out, HMW.out, Nat.le_refl _, HBW.out⟩
end Go.Proofs.Ytbogknjgjbhagaa
