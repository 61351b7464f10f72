/- The thin package's bytes of a request. -/
import Derived.Test.YtbogknjgjbhagaaReq3
namespace Go.Proofs.Ytbogknjgjbhagaa
open Go.RowKit
set_option linter.unusedSimpArgs false

theorem Try.enter64 (args : Array Value) (w : World) : (callFunc 64 args).run Try.prog w = .ok (.enter 64 args) w := by kernel_rfl

/-- The attributes of a request, behind the row of interfaces. -/
theorem ReqSt.kidsAt {w wr : World} {p : Nat} {L t f s : Int} {A' : Option Addr} {c' : Nat} {rv : Value} {gs : List Nat} {ks : List Tree} (h : ReqSt w wr p L t f s ks.length (.slice A' ks.length c') rv gs ks) :
    ks ≠ [] → ∃ bb o, A' = some ⟨bb, o, none⟩ ∧ (w.heap.size ≤ bb ∧ bb < wr.heap.size ∧ bb ≠ p) ∧ KsAt wr (fun b => w.heap.size ≤ b ∧ b < wr.heap.size ∧ b ≠ p) bb o ks := fun hne => by
  obtain ⟨A, c, e, -, hr, -⟩ := Rd.of_own h.own
  injection e with e1 e2 e3
  subst e1 e3
  have hgs : (gs.map fun g => (Value.iface 99 (.pointer (some ⟨g, 0, none⟩)))) ≠ [] := fun e => by
    have := congrArg List.length e
    rw [List.length_map, h.kids.1, List.length_nil] at this
    exact hne (List.eq_nil_of_length_eq_zero this)
  obtain ⟨b, o, rfl, hcell⟩ := hr hgs
  have hbp : b ≠ p := fun e => by
    obtain ⟨-, cur, h2⟩ := own_block h.own b rfl
    rw [e, h.rec_] at h2
    injection h2 with h2
    injection h2 with _ h2
    exact absurd h2 (by decide)
  exact ⟨b, o, rfl, ⟨(own_block h.own b rfl).1, own_lt h.own rfl, hbp⟩, KsAt.of gs ks o h.kids.1 (fun i g x e1 e2 => RAt.keep (fun b hF => ⟨rfl, hF.1, hF.2.1, hF.2.2.1⟩) _ _ (h.kids.2 i g x e1 e2)) hcell⟩

theorem reqB_eq (t f s : Int) (body : List Int) : lowB (16 + body.length : Nat) 4 ++ lowB t 2 ++ lowB (orOne f) 2 ++ lowB s 4 ++ lowB 0 4 ++ body = reqB t f s body := by
  have e : ((16 + body.length : Nat) : Int) = (body.length : Int) + 16 := by omega
  have z : lowB 0 4 = [0, 0, 0, 0] := by decide
  rw [reqB, e, z]
theorem reqB_length (t f s : Int) (body : List Int) : (reqB t f s body).length = 16 + body.length := by simp [reqB]; omega

set_option maxHeartbeats 4000000 in
set_option maxRecDepth 100000 in
theorem req1_calls (w0 : World) (pb fb sb lb rb ob : Nat) (t f s : Int) (A : Option Addr) (c : Nat) (l : List Tree) (Ar : Option Addr) (cr : Nat) (raw : List Int) (w : World)
    (hpb : w.heap[pb]? = some (.cells #[.int .i64 t] 3 (0, 0))) (hfb : w.heap[fb]? = some (.cells #[.int .i64 f] 3 (0, 0))) (hsb : w.heap[sb]? = some (.cells #[.int .u32 s] 23 (0, 0))) (hlb : w.heap[lb]? = some (.cells #[.slice A l.length c] 54 (0, 0)))
    (hrb : w.heap[rb]? = some (.cells #[.slice Ar raw.length cr] 31 (0, 0))) (hob : w.heap[ob]? = some (.cells #[.slice none 0 0] 31 (0, 0)))
    (hl : l ≠ [] → ∃ bb o, A = some ⟨bb, o, none⟩ ∧ XsAt w0 w0 (fun _ => True) bb o l) (hb0 : Below w0.heap.size w0 w) (hraw : BytesAt w0 (.slice Ar raw.length cr) raw) (hgood : Goods l) (hcost : ∀ x ∈ l, cost x ≤ 4000)
    (hn : l.length ≤ 10) (hr2 : raw.length ≤ 200) (ht : 0 ≤ t ∧ t < 65536) (hf : 0 ≤ f ∧ f < 65536) (hs : 0 ≤ s ∧ s < 4294967296) :
    Calls Try.prog 64 #[.pointer (some ⟨pb, 0, none⟩), .pointer (some ⟨fb, 0, none⟩), .pointer (some ⟨sb, 0, none⟩), .pointer (some ⟨lb, 0, none⟩), .pointer (some ⟨rb, 0, none⟩), .pointer (some ⟨ob, 0, none⟩)] w
      fun e w' => e = .returned (.bool true) ∧ w.grownBy w' (some ob) ∧ OutRow ob w.heap.size 31 5 (reqB t f s (attrsB l ++ raw)).length (bytesC (reqB t f s (attrsB l ++ raw))) w' := by
  have q31 : ∀ (w : World) (a : Option Addr) (n c n' c' : Nat), (binOp .neq 31 (.slice a n c) (.slice none n' c')).run Try.prog w = .ok (.bool (!a.isNone)) w := fun w a n c n' c' => run_neq_slice_nil_any w _ _ a n c n' c' Try.underlying31
  have cp := cell_of_one hpb
  have cf := cell_of_one hfb
  have cs := cell_of_one hsb
  have HLB := Lib.hid hlb
  have HRB := Lib.hid hrb
  have HOB := Lib.hid hob
  have HL := Lib.hid hl
  have HB0 := Lib.hid hb0
  have HRAW := Lib.hid hraw
  have HG := Lib.hid hgood
  have HC := Lib.hid hcost
  have lob := lt_of_block hob
  have hbs := hb0.size
  clear hpb hfb hsb hlb hrb hob hl hb0 hraw hgood hcost
  go_enter Try.func64, Try.ntmps64
  go_wp2_with fail
  refine (newReq_calls t f s w (by omega) (by omega) hs).mono ?_
  rintro e w1 ⟨p, rfl, hp0, hp, hb1⟩
  have st0 : ReqSt w w1 p 16 t (orOne f) s 0 (.slice none 0 0) (.slice none 0 0) [] [] := ⟨hp0, hp, World.ownsRow_nil _ _ _ _, ⟨rfl, fun i g x e1 _ => by simp at e1⟩, rfl, hb1⟩
  have ST0 := Lib.hid st0
  have hlb1 := (hb1.block lb (lt_of_block HLB.out)).trans HLB.out
  have cl := cell_of_one hlb1
  clear cp cf cs hb1 hp st0 hlb1
  go_wp2_with fail
  clear cl
  go_loopw [17] (fun i wr => ∃ (k : Nat) (cv : Value) (gs : List Nat), k ≤ l.length ∧ i = .int .i64 (k : Nat) ∧ Hid (ReqSt w wr p 16 t (orOne f) s k cv (.slice none 0 0) gs (l.take k))) (fun i _ => l.length - (intOf i).toNat)
  case atStart => exact ⟨0, _, [], Nat.zero_le _, rfl, by simpa using ST0⟩
  case round =>
    obtain ⟨k, cv, gs, hk, rfl, ST⟩ := hrel
    clear ST0
    have hst := ST.out.below.size
    by_cases hlt : k < l.length
    · obtain ⟨bb, o, rfl, hxs⟩ := HL.out (by rintro rfl; simp at hlt)
      obtain ⟨ka, kb, kc, e0, e1, e2, hkid⟩ := XsAt.get l bb o k hlt hxs
      have B0 : Below w0.heap.size w0 wr := HB0.out.trans (ST.out.below.mono hbs)
      have f0' := cells_one B0 e0
      have f1' := cells_one B0 e1
      have f2' := cells_one B0 e2
      have hgk := Goods.mem hlt HG.out
      have hcm := HC.out _ (List.getElem_mem hlt)
      obtain ⟨T1, hT1⟩ : ∃ T1, T1 = l[k] := ⟨_, rfl⟩
      rw [← hT1] at hkid hgk hcm
      have hsnoc : l.take k ++ [T1] = l.take (k + 1) := by rw [hT1]; exact (List.take_succ_eq_append_getElem hlt).symm
      have KID := Lib.hid hkid
      have HSN := Lib.hid hsnoc
      have HB00 := Lib.hid B0
      have HGK := Lib.hid hgk
      have HCM := Lib.hid hcm
      obtain ⟨t', d', ks''⟩ := T1
      obtain ⟨xA, xk, yA, yk, rfl, rfl, rfl, -⟩ := XAt.shape hkid
      have hne : 0 < l.length := by omega
      have hszw : w0.heap.size ≤ wr.heap.size := by omega
      have hppp := lt_of_block ST.out.rec_
      have hcvl : ∀ b, cv.ownBlock = some b → b < wr.heap.size := fun b e => own_lt ST.out.own e
      have HCVL := Lib.hid hcvl
      clear hxs e0 e1 e2 hkid hT1 hsnoc B0 hgk hcm hcvl
      go_wp2_with fail
      obtain ⟨W5, hW5⟩ : ∃ W5, W5 = wr.alloc (.cells #[.int .i64 t', .slice xA d'.length xk, .slice yA ks''.length yk] 56) := ⟨_, rfl⟩
      have D5 : Below wr.heap.size wr W5 := by rw [hW5]; exact (Below.refl _ wr).alloc (Nat.le_refl _) _
      rw [← hW5]
      have HD5 := Lib.hid D5
      have z5 := D5.size
      clear hW5 D5
      refine (given_calls w0 _ W5 _ _ _ KID.out (HB00.out.trans (HD5.out.mono hszw)) HGK.out HCM.out).mono ?_
      rintro e u1 ⟨g, rfl, hrat, hbu1⟩
      have E1 : Below wr.heap.size wr u1 := below_trans HD5.out hbu1
      have zu1 := E1.size
      have st1 := ST.out.later E1
      have rat := RAt.keep (F' := fun b => wr.heap.size ≤ b ∧ b < u1.heap.size) (fun b hF => ⟨rfl, by omega, hF.2⟩) _ _ hrat
      have ac := addData_calls w.heap.size p g 16 t (orOne f) s cv (.slice none 0 0) k _ u1 st1.rec_ st1.own st1.lo (by omega) (by omega)
      have ST1 := Lib.hid st1
      have RATT := Lib.hid rat
      have AC := Lib.hid ac
      clear hrat hbu1 E1 st1 rat ac
      go_wp2_with fail
      refine AC.out.mono ?_
      rintro e u2 ⟨rfl, hadd⟩
      obtain ⟨cv', st3⟩ := ST1.out.next (w0 := wr) RATT.out hst hppp HCVL.out hadd
      rw [HSN.out] at st3
      have ST3 := Lib.hid st3
      clear hadd st3
      go_wp2_with fail
      go_roundw
      case rel => exact ⟨k + 1, cv', _, by omega, by go_num, ST3⟩
      case measure => simp [intOf]; omega
    · have hkk : k = l.length := by omega
      subst hkk
      have st := ST.out
      rw [List.take_length] at st
      obtain ⟨Ac, cc, rfl, hcc, -, -⟩ := Rd.of_own st.own
      have hkids := st.kidsAt
      obtain ⟨wz, rfl⟩ : ∃ wz : World, wz = wr := ⟨_, rfl⟩
      have hrbz := (st.below.block rb (lt_of_block HRB.out)).trans HRB.out
      have crz := cell_of_one hrbz
      have ST2 := Lib.hid st
      have HK2 := Lib.hid hkids
      have hpz := lt_of_block st.rec_
      have hpo : ob ≠ p := by have := st.lo; omega
      clear st hkids hrbz
      cases Ar with
      | none =>
        obtain rfl : raw = [] := by
          obtain ⟨A', c', e, -, -, h⟩ := HRAW.out
          injection e with e
          exact h e.symm
        have REQ : Hid (ReqAt wz p 16 t (orOne f) s (.slice Ac l.length cc) (.slice none ([] : List Int).length 0)) := ST2.out.rec_
        have KS := HK2
        have BY : Hid (BytesF wz (fun b => w.heap.size ≤ b ∧ b < wz.heap.size ∧ b ≠ p) (.slice none ([] : List Int).length 0) []) := ⟨none, 0, rfl, Nat.le_refl _, fun _ => rfl, fun h => absurd rfl h⟩
        have HBW := Lib.hid ST2.out.below
        have sc := serReq_calls wz (fun b => w.heap.size ≤ b ∧ b < wz.heap.size ∧ b ≠ p) p t (orOne f) s none Ac 0 cc l ([] : List Int) REQ.out KS.out BY.out (fun g hg => ⟨hg.2.1, hg.2.2⟩) HG.out HC.out hn (by first | exact hr3 | simp) ht (orOne_bound f hf) hs
        rw [reqB_eq] at sc
        have SC := Lib.hid sc
        have hwW := HBW.out.size
        have hpz2 := lt_of_block REQ.out
        obtain ⟨q, hq⟩ : ∃ q, q = (reqB t f s (attrsB l ++ ([] : List Int))).length := ⟨_, rfl⟩
        have HQ := Lib.hid hq
        have hqb : q ≤ 100000 := by
          have h1 := attrsB_few l HC.out
          rw [hq, reqB_length, List.length_append]
          try simp
          omega
        clear sc hq
        go_wp2_with fail
        refine SC.out.mono ?_
        rintro e w2 ⟨v2, rfl, hown2, hg2⟩
        rw [← reqB_length t f s, ← HQ.out] at hown2
        obtain ⟨A2, c2, rfl, hc2, hrd2, hn2⟩ := Rd.of_own hown2
        have HR2 := Lib.hid hrd2
        have HN2 := Lib.hid hn2
        have HB2 := Lib.hid (HBW.out.grown hg2 hwW (fun x hx => by injection hx with hx; omega))
        clear hown2 hrd2 hn2 hg2
        go_wp2_with fail
        refine (clone_bytes A2 q c2 (bytesC (reqB t f s (attrsB l ++ ([] : List Int)))) w2 HR2.out (by rw [bytesC_length]; exact HQ.out.symm) (by omega) (bytesC_one _) (fun h => (HN2.out h).1)).mono ?_
        rintro e w3 ⟨v3, rfl, hown3, -, hb3⟩
        obtain ⟨A3, c3, rfl, -, -, -⟩ := Rd.of_own hown3
        have hsz2 := HB2.out.size
        have B3 := HB2.out.trans (hb3.mono hsz2)
        have hob3 := (B3.block ob lob).trans HOB.out
        have cc1 := cell_of_one hob3
        have ff := free_of_one hob3
        have HB3 := Lib.hid B3
        have HO3 := Lib.hid hown3
        have HOB3 := Lib.hid hob3
        clear hown3 hb3 B3 hob3
        go_wp2_with fail
        go_ret
        refine ⟨rfl, grown_store HB3.out ob _, _, one_setCell HOB3.out, ?_⟩
        rw [← HQ.out]
        refine ownsRow_setCell_other (own_lower HO3.out hsz2) (fun e => ?_) _
        have := (HO3.out.lt _ e).1
        simp at this
        omega
      | some ad =>
        obtain ⟨r, hr⟩ : ∃ r, r = raw.length := ⟨_, rfl⟩
        rw [← hr] at crz hr2
        have HR := Lib.hid hr
        clear hr
        go_wp2_with fail
        refine (clone_bytes (some ad) r cr (bytesC raw) wz ((HRAW.out.below (HB0.out.trans (ST2.out.below.mono hbs))).rd) (by rw [bytesC_length]; exact HR.out.symm) (by omega) (bytesC_one _) (fun h => by cases h)).mono ?_
        rintro e u1 ⟨v1, rfl, ho1, -, hbu1⟩
        have zu1 := hbu1.size
        obtain ⟨A1, c1, rfl, hc1, hr1, hn1⟩ := Rd.of_own ho1
        have hpu := (hbu1.block p hpz).trans ST2.out.rec_
        rw [HR.out]
        have ar := addRaw_calls p 16 t (orOne f) s (.slice Ac l.length cc) A1 c1 raw u1 hpu hr1 (fun h => List.eq_nil_of_length_eq_zero (by rw [← HR.out]; exact (hn1 h).1)) (by rw [← HR.out]; omega)
        have AR := Lib.hid ar
        have HBU := Lib.hid hbu1
        clear ar ho1 hbu1 hr1 hn1 hpu
        go_wp2_with fail
        refine AR.out.mono ?_
        rintro e u2 ⟨rfl, Aq, cq, u3, hreq, hoq, hbq, hu2⟩
        have zu3 := hbq.size
        have hsz2 : u2.heap.size = u3.heap.size := by rw [hu2]; simp [World.setCell]
        have hfar : ∀ b, b ≠ p → u2.heap[b]? = u3.heap[b]? := fun b hb => by rw [hu2]; exact Below.heap_setCell _ _ _ _ (by simpa using hb)
        have hplo := ST2.out.lo
        have hwz := ST2.out.below.size
        have REQ := Lib.hid hreq
        have KS : Hid (l ≠ [] → ∃ bb o, Ac = some ⟨bb, o, none⟩ ∧ (w.heap.size ≤ bb ∧ bb < u2.heap.size ∧ bb ≠ p) ∧ KsAt u2 (fun b => w.heap.size ≤ b ∧ b < u2.heap.size ∧ b ≠ p) bb o l) := fun hne => by
          obtain ⟨bb, o, e, hF, hk⟩ := HK2.out hne
          exact ⟨bb, o, e, ⟨hF.1, by omega, hF.2.2⟩, KsAt.keep (fun g hg => ⟨(hfar g hg.2.2).trans ((hbq.block g (by omega)).trans (HBU.out.block g hg.2.1)), hg.1, by omega, hg.2.2⟩) l bb o hF hk⟩
        have BY : Hid (BytesF u2 (fun b => w.heap.size ≤ b ∧ b < u2.heap.size ∧ b ≠ p) (.slice Aq raw.length cq) raw) := (own_bytesF hoq).keep fun b hF => ⟨hfar b (by omega), by omega, by omega, by omega⟩
        have HBW : Hid (Below w.heap.size w u2) := by
          rw [hu2]
          exact ((ST2.out.below.trans ((HBU.out.trans (hbq.mono zu1)).mono hwz))).setCell hplo _
        have hr3 : raw.length ≤ 200 := by rw [← HR.out]; exact hr2
        clear hreq hoq hbq hu2 hfar
        have sc := serReq_calls u2 (fun b => w.heap.size ≤ b ∧ b < u2.heap.size ∧ b ≠ p) p t (orOne f) s Aq Ac cq cc l raw REQ.out KS.out BY.out (fun g hg => ⟨hg.2.1, hg.2.2⟩) HG.out HC.out hn (by first | exact hr3 | simp) ht (orOne_bound f hf) hs
        rw [reqB_eq] at sc
        have SC := Lib.hid sc
        have hwW := HBW.out.size
        have hpz2 := lt_of_block REQ.out
        obtain ⟨q, hq⟩ : ∃ q, q = (reqB t f s (attrsB l ++ raw)).length := ⟨_, rfl⟩
        have HQ := Lib.hid hq
        have hqb : q ≤ 100000 := by
          have h1 := attrsB_few l HC.out
          rw [hq, reqB_length, List.length_append]
          try simp
          omega
        clear sc hq
        go_wp2_with fail
        refine SC.out.mono ?_
        rintro e w2 ⟨v2, rfl, hown2, hg2⟩
        rw [← reqB_length t f s, ← HQ.out] at hown2
        obtain ⟨A2, c2, rfl, hc2, hrd2, hn2⟩ := Rd.of_own hown2
        have HR2 := Lib.hid hrd2
        have HN2 := Lib.hid hn2
        have HB2 := Lib.hid (HBW.out.grown hg2 hwW (fun x hx => by injection hx with hx; omega))
        clear hown2 hrd2 hn2 hg2
        go_wp2_with fail
        refine (clone_bytes A2 q c2 (bytesC (reqB t f s (attrsB l ++ raw))) w2 HR2.out (by rw [bytesC_length]; exact HQ.out.symm) (by omega) (bytesC_one _) (fun h => (HN2.out h).1)).mono ?_
        rintro e w3 ⟨v3, rfl, hown3, -, hb3⟩
        obtain ⟨A3, c3, rfl, -, -, -⟩ := Rd.of_own hown3
        have hsz2 := HB2.out.size
        have B3 := HB2.out.trans (hb3.mono hsz2)
        have hob3 := (B3.block ob lob).trans HOB.out
        have cc1 := cell_of_one hob3
        have ff := free_of_one hob3
        have HB3 := Lib.hid B3
        have HO3 := Lib.hid hown3
        have HOB3 := Lib.hid hob3
        clear hown3 hb3 B3 hob3
        go_wp2_with fail
        go_ret
        refine ⟨rfl, grown_store HB3.out ob _, _, one_setCell HOB3.out, ?_⟩
        rw [← HQ.out]
        refine ownsRow_setCell_other (own_lower HO3.out hsz2) (fun e => ?_) _
        have := (HO3.out.lt _ e).1
        simp at this
        omega

theorem at_next {W : World} {k : Nat} {o : Obj} (h : W.heap[k]? = some o) (x : Obj) : (W.alloc x).heap[k]? = some o := (heap_alloc_old W x (lt_of_block h)).trans h
theorem at_new (w : World) (x : Obj) {n : Nat} (h : w.heap.size = n) : (w.alloc x).heap[n]? = some x := h ▸ heap_alloc_new w x
theorem six_at (w : World) (a b c d e f : Obj) : ∃ W, W = ((((((w.alloc a).alloc b).alloc c).alloc d).alloc e).alloc f) ∧ W.heap[w.heap.size]? = some a ∧ W.heap[w.heap.size + 1]? = some b ∧ W.heap[w.heap.size + 2]? = some c ∧ W.heap[w.heap.size + 3]? = some d ∧ W.heap[w.heap.size + 4]? = some e ∧ W.heap[w.heap.size + 5]? = some f ∧ W.heap.size = w.heap.size + 6 ∧ Below w.heap.size w W :=
  ⟨_, rfl, at_next (at_next (at_next (at_next (at_next (at_new w a rfl) b) c) d) e) f, at_next (at_next (at_next (at_next (at_new _ b (by simp)) c) d) e) f, at_next (at_next (at_next (at_new _ c (by simp)) d) e) f, at_next (at_next (at_new _ d (by simp)) e) f, at_next (at_new _ e (by simp)) f, at_new _ f (by simp), by simp,
    (((((((Below.refl _ w).alloc (Nat.le_refl _) a).alloc (by simp) b).alloc (by simp; omega) c).alloc (by simp; omega) d).alloc (by simp; omega) e).alloc (by simp; omega) f)⟩

set_option maxHeartbeats 2000000 in
set_option maxRecDepth 100000 in
theorem implReq_calls (w0 : World) (t f s : Int) (A : Option Addr) (c : Nat) (l : List Tree) (Ar : Option Addr) (cr : Nat) (raw : List Int) (w : World)
    (hl : l ≠ [] → ∃ bb o, A = some ⟨bb, o, none⟩ ∧ XsAt w0 w0 (fun _ => True) bb o l) (hb0 : Below w0.heap.size w0 w) (hraw : BytesAt w0 (.slice Ar raw.length cr) raw) (hgood : Goods l) (hcost : ∀ x ∈ l, cost x ≤ 4000)
    (hn : l.length ≤ 10) (hr2 : raw.length ≤ 200) (ht : 0 ≤ t ∧ t < 65536) (hf : 0 ≤ f ∧ f < 65536) (hs : 0 ≤ s ∧ s < 4294967296) :
    Calls Try.prog 32 #[.int .i64 t, .int .i64 f, .int .u32 s, .slice A l.length c, .slice Ar raw.length cr] w
      fun e w' => ∃ v, e = .returned (.tuple #[v, .bool true]) ∧ w'.ownsRow w.heap.size 5 1 v (reqB t f s (attrsB l ++ raw)).length (bytesC (reqB t f s (attrsB l ++ raw))) ∧ Below w.heap.size w w' := by
  have hmf : ∀ (fn : Fn) (first cap : Array Value) (w : World), (Instr.makeFunc fn first cap).run Try.prog w = .ok (.func fn first cap) w := fun _ _ _ _ => rfl
  have HL := Lib.hid hl
  have HB0 := Lib.hid hb0
  have HRAW := Lib.hid hraw
  have HG := Lib.hid hgood
  have HC := Lib.hid hcost
  have hbs := hb0.size
  clear hl hb0 hraw hgood hcost
  have z1 : decide (t < 0) = false := by simpa using ht.1
  have z2 : decide (65535 < t) = false := by simp; omega
  have z3 : decide (f < 0) = false := by simpa using hf.1
  have z4 : decide (65535 < f) = false := by simp; omega
  obtain ⟨W, hW, a0, a1, a2, a3, a4, a5, hsz, hB⟩ := six_at w (.cells #[.int .i64 t] 3) (.cells #[.int .i64 f] 3) (.cells #[.int .u32 s] 23) (.cells #[.slice A l.length c] 54) (.cells #[.slice Ar raw.length cr] 31) (.cells #[.slice none 0 0] 31)
  have HW := Lib.hid hW
  have A0 := Lib.hid a0
  have A1 := Lib.hid a1
  have A2 := Lib.hid a2
  have A3 := Lib.hid a3
  have A4 := Lib.hid a4
  have A5 := Lib.hid a5
  have HB := Lib.hid hB
  have HSZ := Lib.hid hsz
  clear hW a0 a1 a2 a3 a4 a5 hB hsz
  go_enter Try.func32, Try.ntmps32
  go_wp2_with fail
  rw [← HW.out]
  have hsz := HSZ.out
  have D1 : Below W.heap.size W (W.alloc (.cells #[.bool false] 4)) := (Below.refl _ _).alloc (Nat.le_refl _) _
  have rc := req1_calls w0 w.heap.size (w.heap.size + 1) (w.heap.size + 2) (w.heap.size + 3) (w.heap.size + 4) (w.heap.size + 5) t f s A c l Ar cr raw (W.alloc (.cells #[.bool false] 4))
    ((D1.block _ (by omega)).trans A0.out) ((D1.block _ (by omega)).trans A1.out) ((D1.block _ (by omega)).trans A2.out) ((D1.block _ (by omega)).trans A3.out) ((D1.block _ (by omega)).trans A4.out) ((D1.block _ (by omega)).trans A5.out)
    HL.out (HB0.out.trans ((HB.out.trans (D1.mono (by omega))).mono hbs)) HRAW.out HG.out HC.out hn hr2 ht hf hs
  refine (try_calls 64 _ _ (some (w.heap.size + 5)) true (OutRow (w.heap.size + 5) (W.heap.size + 1) 31 5 (reqB t f s (attrsB l ++ raw)).length (bytesC (reqB t f s (attrsB l ++ raw)))) (fun w => Try.enter64 _ w) (by simp; omega) ?cl ?post).mono ?_
  case cl =>
    refine rc.mono ?_
    rintro e w' ⟨rfl, hg, v, hv, ho⟩
    exact ⟨rfl, hg, v, hv, by simpa using ho⟩
  case post =>
    intro w' h
    exact h.far (by simp; omega) (by simp) _
  rintro e w1 ⟨rfl, hg, v, hv, hown⟩
  have B1 : Below w.heap.size w w1 := below_grown HB.out hg (by intro k hk; simp at hk; omega)
  obtain ⟨A1', k, rfl, -, -, -⟩ := Rd.of_own hown
  have cc := cell_of_one hv
  have ff := free_of_one hv
  have HV := Lib.hid hv
  have HO := Lib.hid hown
  have HBB := Lib.hid B1
  obtain ⟨q, hq⟩ : ∃ q, q = (reqB t f s (attrsB l ++ raw)).length := ⟨_, rfl⟩
  clear hg hv hown B1 rc D1
  go_wp2_with fail
  have cc2 := cell_of_one (one_setCell (u := .slice A1' (reqB t f s (attrsB l ++ raw)).length k) HV.out)
  refine bodyPost_ret (v := .tuple #[.slice A1' (reqB t f s (attrsB l ++ raw)).length k, .bool true]) (by simp [results, Try.results32, go_sem, cc2]) rfl ⟨_, rfl, ?_, ?_⟩
  · refine ownsRow_setCell_other (own_lower HO.out (by omega)) (fun e => ?_) _
    have := (HO.out.lt _ e).1
    simp at this
    omega
  · exact HBB.out.setCell (by simp; omega) _
end Go.Proofs.Ytbogknjgjbhagaa
