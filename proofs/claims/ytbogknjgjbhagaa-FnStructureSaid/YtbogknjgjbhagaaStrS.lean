/- The reference's bytes of a structure: its shape, how many fields it has, what they are. -/
import Derived.Test.YtbogknjgjbhagaaPar7
import Derived.Laws.RangeAny
import Derived.Lib.ConvBytes
import Derived.BigQuiet
import Derived.Deep.QuietTactic
import Derived.Deep.RegionHeld3
namespace Go.Proofs.Ytbogknjgjbhagaa
open Go.RowKit
set_option linter.unusedSimpArgs false

-- A shape is a row of codes: 112 is a byte that is nothing, 48 + n a field of n bytes.
def cnt : List Nat → Nat
  | [] => 0
  | c :: r => (if c = 112 then 0 else 1) + cnt r
def emitAt : List Nat → List Int → Nat → List Int
  | [], _, _ => []
  | c :: r, l, i => if c = 112 then 0 :: emitAt r l i else lowB (l.getD i 0) (c - 48) ++ emitAt r l (i + 1)
def OkAt : List Nat → List Int → Nat → Prop
  | [], _, _ => True
  | c :: r, l, i => if c = 112 then OkAt r l i else (0 ≤ l.getD i 0 ∧ l.getD i 0 < ((256 ^ (c - 48) : Nat) : Int)) ∧ OkAt r l (i + 1)
theorem cnt_snoc (cs : List Nat) (c : Nat) : cnt (cs ++ [c]) = cnt cs + (if c = 112 then 0 else 1) := by
  induction cs with
  | nil => simp [cnt]
  | cons x r ih => simp [cnt, ih]; omega
theorem emitAt_snoc (cs : List Nat) (c : Nat) (l : List Int) : ∀ i, emitAt (cs ++ [c]) l i = emitAt cs l i ++ (if c = 112 then [0] else lowB (l.getD (i + cnt cs) 0) (c - 48)) := by
  induction cs with
  | nil => intro i; by_cases h : c = 112 <;> simp [emitAt, cnt, h]
  | cons x r ih =>
    intro i
    by_cases h : x = 112
    · simp [emitAt, cnt, h, ih]
    · simp only [List.cons_append, emitAt, cnt, h, if_false, ih, List.append_assoc]
      rw [show i + 1 + cnt r = i + (1 + cnt r) from by omega]
theorem okAt_snoc (cs : List Nat) (c : Nat) (l : List Int) : ∀ i, OkAt (cs ++ [c]) l i ↔ OkAt cs l i ∧ (c ≠ 112 → 0 ≤ l.getD (i + cnt cs) 0 ∧ l.getD (i + cnt cs) 0 < ((256 ^ (c - 48) : Nat) : Int)) := by
  induction cs with
  | nil => intro i; by_cases h : c = 112 <;> simp [OkAt, cnt, h]
  | cons x r ih =>
    intro i
    by_cases h : x = 112
    · simp [OkAt, cnt, h, ih]
    · simp only [List.cons_append, OkAt, cnt, h, if_false, ih]
      rw [show i + 1 + cnt r = i + (1 + cnt r) from by omega]
      simp only [and_assoc]
theorem cnt_take_le (cs : List Nat) (k : Nat) : cnt (cs.take k) ≤ cnt cs := by
  induction cs generalizing k with
  | nil => simp [cnt]
  | cons x r ih =>
    cases k with
    | zero => simp [cnt]
    | succ k => simp [cnt]; exact ih k
theorem cnt_le (cs : List Nat) : cnt cs ≤ cs.length := by
  induction cs with
  | nil => simp [cnt]
  | cons x r ih => simp only [cnt, List.length_cons]; split <;> omega
theorem emitAt_le (cs : List Nat) (l : List Int) (h : ∀ c ∈ cs, c ≤ 52 ∨ c = 112) : ∀ i, (emitAt cs l i).length ≤ cs.length * 4 := by
  induction cs with
  | nil => intro i; simp [emitAt]
  | cons x r ih =>
    intro i
    have h1 := h x (by simp)
    have ih2 := ih (fun c hc => h c (by simp [hc]))
    by_cases hx : x = 112
    · have := ih2 i; simp [emitAt, hx]; omega
    · have := ih2 (i + 1); simp [emitAt, hx]; omega

def u64C (l : List Int) : List Value := l.map (Value.int .u64)

/-- A string of such codes. -/
structure Shp (K : Int) (s : ByteArray) (cs : List Nat) : Prop where
  codes : s.data.toList.map UInt8.toNat = cs
  each : ∀ c ∈ cs, c = 112 ∨ c = 49 ∨ c = 50 ∨ c = 52
  few : cs.length ≤ 9
  calls : ∀ w, Calls Try.prog 70 #[.int .i64 K] w fun e w' => e = .returned (.string s) ∧ Below w.heap.size w w'

theorem Shp.size {K : Int} {s : ByteArray} {cs : List Nat} (h : Shp K s cs) : s.size = cs.length := by
  rw [← h.codes, List.length_map]; rfl
theorem Shp.at_ {K : Int} {s : ByteArray} {cs : List Nat} (h : Shp K s cs) (i : Nat) (hi : i < s.size) : ∃ c, cs[i]? = some c ∧ (s[i]'hi).toNat = c ∧ c ∈ cs := by
  have h1 : s.data.toList[i]? = some (s[i]'hi) := by
    rw [List.getElem?_eq_getElem (by simpa using hi)]; rfl
  have h2 : cs[i]? = some (s[i]'hi).toNat := by rw [← h.codes, List.getElem?_map, h1]; rfl
  exact ⟨_, h2, rfl, List.mem_of_getElem? h2⟩

set_option maxHeartbeats 1000000 in
set_option maxRecDepth 100000 in
theorem fields_calls (K : Int) (s : ByteArray) (cs : List Nat) (w : World) (hs : Shp K s cs) :
    Calls Try.prog 69 #[.int .i64 K] w fun e w' => e = .returned (.int .i64 (cnt cs)) ∧ Below w.heap.size w w' := by
  have HS := Lib.hid hs
  have hf := hs.few
  have hsz := hs.size
  have HSZ := Lib.hid hsz
  have hcl := cnt_le cs
  clear hs hsz
  go_enter Try.func69, Try.ntmps69
  go_wp2_with fail
  refine (HS.out.calls w).mono ?_
  rintro e w1 ⟨rfl, hb1⟩
  have HB1 := Lib.hid hb1
  clear hb1
  go_wp2_with fail
  go_loopw [3] (fun n wr => ∃ pos : Nat, pos ≤ s.size ∧ wr = w1.iter s pos ∧ n = .int .i64 (cnt (cs.take pos) : Nat)) (fun _ wr => s.size - wr.iterPos w1.heap.size)
  case atStart => exact ⟨0, Nat.zero_le _, rfl, by simp [cnt]⟩
  case round =>
    obtain ⟨pos, hpos, rfl, rfl⟩ := hrel
    have hle := cnt_take_le cs pos
    by_cases hp : pos < s.size
    · obtain ⟨c, hc1, hc2, hc3⟩ := HS.out.at_ pos hp
      have hc4 := HS.out.each c hc3
      have hsn : cs.take (pos + 1) = cs.take pos ++ [c] := by rw [List.take_add_one, hc1]; rfl
      have hcn := cnt_snoc (cs.take pos) c
      rw [← hsn] at hcn
      have hd := decode_ascii s pos hp (by omega)
      rw [hc2] at hd
      have hnx : ∀ ty, (Instr.next (.pointer (some ⟨w1.heap.size, 0, none⟩)) true ty).run Try.prog (w1.iter s pos) = .ok (.tuple #[.bool true, .int .i64 pos, .int .i32 c]) (w1.iter s (pos + 1)) := fun ty => by
        rw [run_next_any w1 s pos ty hp, hd]
      have HCN := Lib.hid hcn
      obtain ⟨m, hm⟩ : ∃ m, m = cnt (cs.take pos) := ⟨_, rfl⟩
      rw [← hm] at HCN hle
      rw [← hm]
      clear hcn hd hsn hc1 hc2 hc3 hm
      by_cases h112 : c = 112
      · subst h112
        go_wp2_with fail
        go_roundw
        case rel => exact ⟨pos + 1, by omega, rfl, by rw [HCN.out]; rfl⟩
        case measure => simp; omega
      · have ht : ((c : Int) != 112) = true := by rw [bne_iff_ne]; omega
        have hce : cnt (cs.take (pos + 1)) = m + 1 := by rw [HCN.out, if_neg h112]
        have HCE := Lib.hid hce
        clear hce HCN
        go_wp2_with fail
        go_roundw
        case rel => exact ⟨pos + 1, by omega, rfl, by rw [HCE.out]; go_num⟩
        case measure => simp; omega
    · have hnx : ∀ ty, (Instr.next (.pointer (some ⟨w1.heap.size, 0, none⟩)) true ty).run Try.prog (w1.iter s pos) = _ := fun ty => run_next_end w1 s pos ty hp
      have hpe : cs.take pos = cs := List.take_of_length_le (by have := HSZ.out; omega)
      rw [hpe]
      clear hpe
      go_wp2_with fail
      go_ret
      exact ⟨rfl, HB1.out.alloc HB1.out.size _⟩

theorem below_bytes (w : World) (e : TypeId) (s : ByteArray) : Below w.heap.size w (Lib.bytesWorld w e s) :=
  ⟨rfl, rfl, rfl, by rw [Lib.bytesWorld_size]; omega, fun k hk => Lib.bytesWorld_at_old w e s k hk⟩

def StrPost (K : Int) (cs : List Nat) (l : List Int) (w : World) (e : Ending) (w' : World) : Prop :=
  ∃ v r, e = .returned (.tuple #[v, .bool r]) ∧ (r = true → 0 < l.length ∧ l.length = cnt cs ∧ (K = 0 → l.getD 2 0 < 2147483648) ∧ OkAt cs l 0 ∧ w'.ownsRow w.heap.size 5 1 v (emitAt cs l 0).length (bytesC (emitAt cs l 0))) ∧ Below w.heap.size w w'

set_option maxHeartbeats 4000000 in
set_option maxRecDepth 100000 in
theorem structure_calls (K : Int) (s : ByteArray) (cs : List Nat) (A : Option Addr) (c : Nat) (l : List Int) (w : World) (hs : Shp K s cs) (hK : K = 0 → 2 < cnt cs) (hr : Rd w A (u64C l)) (hA : A = none → l = []) (hll : l.length ≤ 2147483647) (hl64 : ∀ x ∈ l, 0 ≤ x ∧ x < 18446744073709551616) :
    Calls Try.prog 34 #[.int .i64 K, .slice A l.length c] w fun e w' => StrPost K cs l w e w' := by
  have HS := Lib.hid hs
  have HR := Lib.hid hr
  have hf := hs.few
  have hsz := hs.size
  have hcl := cnt_le cs
  have HL := Lib.hid hl64
  have HKK := Lib.hid hK
  obtain ⟨n, hn⟩ : ∃ n, n = cnt cs := ⟨_, rfl⟩
  rw [← hn] at hcl
  have HN := Lib.hid hn
  clear hs hr hl64 hK hn
  have HSZ := Lib.hid hsz
  have hs9 : s.size ≤ 9 := by omega
  clear hsz
  have hcv : ∀ w : World, (convert 9 31 (.string s)).run Try.prog w = .ok (.slice (some ⟨w.heap.size, 0, none⟩) s.size (grownCap w s.size 0 5)) (Lib.bytesWorld w 5 s) := fun w => Lib.run_convert_string_bytes w 9 31 5 s Try.underlying9 Try.underlying31 Try.underlying5
  by_cases hln : l.length = n
  · by_cases hl0 : l.length = 0
    · have e1 : ((n : Int) != (n : Int)) = false := by simp
      have hz : ((l.length : Int) == 0) = true := by rw [beq_iff_eq]; omega
      have hn0 : n = 0 := by omega
      subst hn0
      rw [hl0]
      go_enter Try.func34, Try.ntmps34
      go_wp2_with (go_at_call 69; refine (fields_calls K s cs _ HS.out).mono ?_; rintro e w1 ⟨rfl, hb1⟩; rw [← HN.out])
      refine bodyPost_ret (v := .tuple #[.slice none 0 0, .bool false]) (by simp [results, Try.results34, go_sem]) rfl ⟨_, _, rfl, (fun h => by cases h), hb1⟩
    · have hlp : 0 < l.length := by omega
      obtain ⟨b, o, rfl, hcell⟩ := HR.out (fun e => by have h := congrArg List.length e; rw [u64C, List.length_map, List.length_nil] at h; omega)
      have HCELL := Lib.hid hcell
      have HLN := Lib.hid hln
      have hz : ((l.length : Int) == 0) = false := by rw [beq_eq_false_iff_ne]; omega
      have e1 : ((l.length : Int) != (n : Int)) = false := by simp; omega
      clear hcell hln
      by_cases hK0 : K = 0
      · subst hK0
        have h2n := HKK.out rfl
        have h2l : 2 < l.length := by have := HLN.out; have := HN.out; omega
        have hc2 := HCELL.out 2 (.int .u64 l[2]) (by rw [u64C, List.getElem?_map, List.getElem?_eq_getElem h2l]; rfl)
        have hgd2 : l.getD 2 0 = l[2] := by rw [List.getD_eq_getElem?_getD, List.getElem?_eq_getElem h2l]; rfl
        obtain ⟨x2, hx2⟩ : ∃ x2, x2 = l[2] := ⟨_, rfl⟩
        rw [← hx2] at hc2 hgd2
        have HGD2 := Lib.hid hgd2
        clear hx2 hgd2
        have h2li : (2 : Int) < (l.length : Int) := by omega
        by_cases hbig : x2 < 2147483648
        · have hd2 : decide (2147483648 ≤ x2) = false := by simpa using hbig
          have HK2 : Hid ((0 : Int) = 0 → l.getD 2 0 < 2147483648) := fun _ => by rw [HGD2.out]; exact hbig
          go_enter Try.func34, Try.ntmps34
          go_wp2_with fail
          refine (fields_calls 0 s cs _ HS.out).mono ?_
          rintro e w1 ⟨rfl, hb1⟩
          rw [← HN.out]
          have hc21 := cells_one hb1 hc2
          have HB1 := Lib.hid hb1
          clear hb1
          go_wp2_with fail
          clear hc21 hc2
          refine (HS.out.calls w1).mono ?_
          rintro e w2 ⟨rfl, hb2⟩
          have HB2 := Lib.hid (below_trans HB1.out hb2)
          have hz2 := HB2.out.size
          clear hb2
          go_wp2_with fail
          obtain ⟨W3, hW3⟩ : ∃ W3, W3 = Lib.bytesWorld w2 5 s := ⟨_, rfl⟩
          have B3 : Below w2.heap.size w2 W3 := by rw [hW3]; exact below_bytes w2 5 s
          have HCO : Hid (∀ (j c : Nat), cs[j]? = some c → W3.cell? ⟨w2.heap.size, j, none⟩ = some (.int .u8 (c : Int))) := fun j c hj => by
            have hjs : j < s.size := by have := (List.getElem?_eq_some_iff.1 hj).1; have := HSZ.out; omega
            rw [hW3, Lib.bytesWorld_cell w2 5 s j hjs]
            obtain ⟨c', h1, h2, -⟩ := HS.out.at_ j hjs
            rw [hj] at h1
            injection h1 with h1
            have e : s.data.toList.getD j 0 = (s[j]'hjs) := by
              rw [List.getD_eq_getElem?_getD, List.getElem?_eq_getElem (by simpa using hjs)]; rfl
            rw [e, h2, h1]
          have hz3 := B3.size
          have hz23 : w2.heap.size < W3.heap.size := by rw [hW3, Lib.bytesWorld_size]; omega
          have HD3 := Lib.hid (HB2.out.trans (B3.mono hz2))
          rw [← hW3]
          clear hW3 B3
          go_loopw [6, 7, 35] (fun v a i wr => ∃ k : Nat, k ≤ s.size ∧ i = .int .i64 (k : Nat) ∧ a = .int .i64 (cnt (cs.take k) : Nat) ∧ Hid (wr.ownsRow W3.heap.size 5 1 v (emitAt (cs.take k) l 0).length (bytesC (emitAt (cs.take k) l 0))) ∧ Hid (OkAt (cs.take k) l 0) ∧ Hid (Below W3.heap.size W3 wr)) (fun _ _ i _ => s.size - (intOf i).toNat)
          case atStart => exact ⟨0, Nat.zero_le _, rfl, by simp [cnt], World.ownsRow_nil _ _ _ _, Lib.hid trivial, Below.refl _ _⟩
          case round =>
            obtain ⟨k, hk, rfl, rfl, HO, HOK, HB⟩ := hrel
            have hbs := HB.out.size
            have hmle : (emitAt (cs.take k) l 0).length ≤ 36 := by
              have h1 := emitAt_le (cs.take k) l (fun c hc => by have := HS.out.each c (List.mem_of_mem_take hc); omega) 0
              have h2 : (cs.take k).length ≤ 9 := by rw [List.length_take]; omega
              omega
            obtain ⟨A1, k1, rfl, -, -, -⟩ := Rd.of_own HO.out
            by_cases hlt : k < s.size
            · obtain ⟨c', hc1, -, hc3⟩ := HS.out.at_ k hlt
              have hc4 := HS.out.each c' hc3
              have hcc := cells_one HB.out (HCO.out k c' hc1)
              have hsn : cs.take (k + 1) = cs.take k ++ [c'] := by rw [List.take_add_one, hc1]; rfl
              have hcn := cnt_snoc (cs.take k) c'
              have hem := emitAt_snoc (cs.take k) c' l 0
              have hoki := okAt_snoc (cs.take k) c' l 0
              rw [← hsn] at hcn hem hoki
              have hcl2 := cnt_take_le cs (k + 1)
              rw [hcn, ← HN.out] at hcl2
              rw [Nat.zero_add] at hem hoki
              have HCN := Lib.hid hcn
              have HEM := Lib.hid hem
              have HOKI := Lib.hid hoki
              obtain ⟨m, hm⟩ : ∃ m, m = (emitAt (cs.take k) l 0).length := ⟨_, rfl⟩
              rw [← hm] at HO hmle
              rw [← hm]
              have HM := Lib.hid hm
              obtain ⟨a, ha⟩ : ∃ a, a = cnt (cs.take k) := ⟨_, rfl⟩
              rw [← ha] at hcl2 HCN HEM HOKI
              rw [← ha]
              clear hcn hem hoki hsn hc1 hc3 hm ha
              rcases hc4 with rfl | rfl | rfl | rfl
              · have D0 : Below wr.heap.size wr (wr.alloc (.cells #[.int .u8 0] 5)) := (Below.refl _ _).alloc (Nat.le_refl _) _
                have rd1 : Rd (wr.alloc (.cells #[.int .u8 0] 5)) (some ⟨wr.heap.size, 0, none⟩) (bytesC [0]) := fun _ => ⟨wr.heap.size, 0, rfl, fun j u hj => by
                  have h := cell_one_new wr (.int .u8 0) 5 j u (by simpa [bytesC] using hj)
                  rwa [Addr.add_lit] at h⟩
                obtain ⟨A4, c4, w4, hrun, hown4, hb4⟩ := app_own W3.heap.size A1 m k1 _ (some ⟨wr.heap.size, 0, none⟩) 1 1 [0] (wr.alloc (.cells #[.int .u8 0] 5)) (own_below HO.out D0) rd1 rfl (fun h => by cases h) (by omega) (by have := D0.size; omega)
                have HB4 := Lib.hid ((HB.out.trans (D0.mono hbs)).trans hb4)
                have R4 : Hid (w4.ownsRow W3.heap.size 5 1 (.slice A4 (m + 1) c4) (emitAt (cs.take (k + 1)) l 0).length (bytesC (emitAt (cs.take (k + 1)) l 0))) := by
                  rw [HEM.out, if_pos rfl, List.length_append, ← HM.out]; exact hown4
                have OK4 : Hid (OkAt (cs.take (k + 1)) l 0) := HOKI.out.2 ⟨HOK.out, fun h => absurd rfl h⟩
                have HC4 : Hid (cnt (cs.take (k + 1)) = a) := HCN.out
                clear D0 rd1 hown4 hb4 hcl2
                go_wp2_with (at_builtin; refine wpList_app rfl _ _ 31 rfl rfl rfl hrun ?_)
                go_roundw
                case rel => exact ⟨k + 1, by omega, by go_num, by rw [HC4.out], R4, OK4, HB4⟩
                case measure => simp [intOf]; omega
              · rw [if_neg (by decide)] at hcl2
                have hal : a < l.length := by have := HLN.out; omega
                have hxr := HL.out _ (List.getElem_mem hal)
                have hcx := cells_one (HD3.out.trans (HB.out.mono HD3.out.size)) (HCELL.out a _ (by rw [u64C, List.getElem?_map, List.getElem?_eq_getElem hal]; rfl))
                have hgd : l.getD a 0 = l[a] := by rw [List.getD_eq_getElem?_getD, List.getElem?_eq_getElem hal]; rfl
                obtain ⟨x, hx⟩ : ∃ x, x = l[a] := ⟨_, rfl⟩
                rw [← hx] at hcx hxr hgd
                have HGD := Lib.hid hgd
                clear hx hgd
                by_cases hxx : x < 256
                · have hd : decide (256 ≤ x) = false := by simpa using hxx
                  have HEM2 : Hid (emitAt (cs.take (k + 1)) l 0 = emitAt (cs.take k) l 0 ++ lowB x 1) := by rw [HEM.out, if_neg (by decide), HGD.out]; rfl
                  have OK4 : Hid (OkAt (cs.take (k + 1)) l 0) := HOKI.out.2 ⟨HOK.out, fun _ => by rw [HGD.out]; exact ⟨hxr.1, by simpa using hxx⟩⟩
                  have HC4 : Hid (cnt (cs.take (k + 1)) = a + 1) := HCN.out
                  go_wp2_with fail
                  go_quiet (fail)
                  have BQ := Lib.hid (below_drewN HB.out nq)
                  have OQ := Lib.hid (own_below HO.out (below_drewN (Below.refl _ wr) nq))
                  go_wp2_with fail
                  refine (low_calls x 1 1 _ rfl (by decide) (by decide)).mono ?_
                  rintro e w5 ⟨v5, rfl, hown5, hb5⟩
                  obtain ⟨X5, k5, rfl, -, hr5, hn5⟩ := Rd.of_own hown5
                  have hzq := BQ.out.size
                  have hz5 := hb5.size
                  obtain ⟨A4, c4, w4, hrun, hown4, hb4⟩ := app_own W3.heap.size A1 m k1 _ X5 1 k5 (lowB x 1) w5 (own_below OQ.out hb5) hr5 (by simp) (fun h => (hn5 h).1) (by omega) (by omega)
                  have HB4 := Lib.hid ((BQ.out.trans (hb5.mono hzq)).trans hb4)
                  have R4 : Hid (w4.ownsRow W3.heap.size 5 1 (.slice A4 (m + 1) c4) (emitAt (cs.take (k + 1)) l 0).length (bytesC (emitAt (cs.take (k + 1)) l 0))) := by
                    rw [HEM2.out, List.length_append, ← HM.out, lowB_length]; exact hown4
                  clear hown4 hb4 hown5 hb5 hr5 hn5 hcl2 hcx hcc
                  go_wp2_with (at_builtin; refine wpList_app rfl _ _ 31 rfl rfl rfl hrun ?_)
                  go_roundw
                  case rel => exact ⟨k + 1, by omega, by go_num, by rw [HC4.out]; go_num, R4, OK4, HB4⟩
                  case measure => simp [intOf]; omega
                · have hd : decide (256 ≤ x) = true := by simpa using hxx
                  go_wp2_with fail
                  go_quiet (fail)
                  go_wp2_with fail
                  refine bodyPost_ret (v := .tuple #[.slice none 0 0, .bool false]) (by simp [results, Try.results34, go_sem]) rfl ⟨_, _, rfl, (fun h => by cases h), HD3.out.trans ((below_drewN HB.out nq).mono HD3.out.size)⟩
              · rw [if_neg (by decide)] at hcl2
                have hal : a < l.length := by have := HLN.out; omega
                have hxr := HL.out _ (List.getElem_mem hal)
                have hcx := cells_one (HD3.out.trans (HB.out.mono HD3.out.size)) (HCELL.out a _ (by rw [u64C, List.getElem?_map, List.getElem?_eq_getElem hal]; rfl))
                have hgd : l.getD a 0 = l[a] := by rw [List.getD_eq_getElem?_getD, List.getElem?_eq_getElem hal]; rfl
                obtain ⟨x, hx⟩ : ∃ x, x = l[a] := ⟨_, rfl⟩
                rw [← hx] at hcx hxr hgd
                have HGD := Lib.hid hgd
                clear hx hgd
                by_cases hxx : x < 65536
                · have hd : decide (65536 ≤ x) = false := by simpa using hxx
                  have HEM2 : Hid (emitAt (cs.take (k + 1)) l 0 = emitAt (cs.take k) l 0 ++ lowB x 2) := by rw [HEM.out, if_neg (by decide), HGD.out]; rfl
                  have OK4 : Hid (OkAt (cs.take (k + 1)) l 0) := HOKI.out.2 ⟨HOK.out, fun _ => by rw [HGD.out]; exact ⟨hxr.1, by simpa using hxx⟩⟩
                  have HC4 : Hid (cnt (cs.take (k + 1)) = a + 1) := HCN.out
                  go_wp2_with fail
                  go_quiet (fail)
                  have BQ := Lib.hid (below_drewN HB.out nq)
                  have OQ := Lib.hid (own_below HO.out (below_drewN (Below.refl _ wr) nq))
                  go_wp2_with fail
                  refine (low_calls x 2 2 _ rfl (by decide) (by decide)).mono ?_
                  rintro e w5 ⟨v5, rfl, hown5, hb5⟩
                  obtain ⟨X5, k5, rfl, -, hr5, hn5⟩ := Rd.of_own hown5
                  have hzq := BQ.out.size
                  have hz5 := hb5.size
                  obtain ⟨A4, c4, w4, hrun, hown4, hb4⟩ := app_own W3.heap.size A1 m k1 _ X5 2 k5 (lowB x 2) w5 (own_below OQ.out hb5) hr5 (by simp) (fun h => (hn5 h).1) (by omega) (by omega)
                  have HB4 := Lib.hid ((BQ.out.trans (hb5.mono hzq)).trans hb4)
                  have R4 : Hid (w4.ownsRow W3.heap.size 5 1 (.slice A4 (m + 2) c4) (emitAt (cs.take (k + 1)) l 0).length (bytesC (emitAt (cs.take (k + 1)) l 0))) := by
                    rw [HEM2.out, List.length_append, ← HM.out, lowB_length]; exact hown4
                  clear hown4 hb4 hown5 hb5 hr5 hn5 hcl2 hcx hcc
                  go_wp2_with (at_builtin; refine wpList_app rfl _ _ 31 rfl rfl rfl hrun ?_)
                  go_roundw
                  case rel => exact ⟨k + 1, by omega, by go_num, by rw [HC4.out]; go_num, R4, OK4, HB4⟩
                  case measure => simp [intOf]; omega
                · have hd : decide (65536 ≤ x) = true := by simpa using hxx
                  go_wp2_with fail
                  go_quiet (fail)
                  go_wp2_with fail
                  refine bodyPost_ret (v := .tuple #[.slice none 0 0, .bool false]) (by simp [results, Try.results34, go_sem]) rfl ⟨_, _, rfl, (fun h => by cases h), HD3.out.trans ((below_drewN HB.out nq).mono HD3.out.size)⟩
              · rw [if_neg (by decide)] at hcl2
                have hal : a < l.length := by have := HLN.out; omega
                have hxr := HL.out _ (List.getElem_mem hal)
                have hcx := cells_one (HD3.out.trans (HB.out.mono HD3.out.size)) (HCELL.out a _ (by rw [u64C, List.getElem?_map, List.getElem?_eq_getElem hal]; rfl))
                have hgd : l.getD a 0 = l[a] := by rw [List.getD_eq_getElem?_getD, List.getElem?_eq_getElem hal]; rfl
                obtain ⟨x, hx⟩ : ∃ x, x = l[a] := ⟨_, rfl⟩
                rw [← hx] at hcx hxr hgd
                have HGD := Lib.hid hgd
                clear hx hgd
                by_cases hxx : x < 4294967296
                · have hd : decide (4294967296 ≤ x) = false := by simpa using hxx
                  have HEM2 : Hid (emitAt (cs.take (k + 1)) l 0 = emitAt (cs.take k) l 0 ++ lowB x 4) := by rw [HEM.out, if_neg (by decide), HGD.out]; rfl
                  have OK4 : Hid (OkAt (cs.take (k + 1)) l 0) := HOKI.out.2 ⟨HOK.out, fun _ => by rw [HGD.out]; exact ⟨hxr.1, by simpa using hxx⟩⟩
                  have HC4 : Hid (cnt (cs.take (k + 1)) = a + 1) := HCN.out
                  go_wp2_with fail
                  go_quiet (fail)
                  have BQ := Lib.hid (below_drewN HB.out nq)
                  have OQ := Lib.hid (own_below HO.out (below_drewN (Below.refl _ wr) nq))
                  go_wp2_with fail
                  refine (low_calls x 4 4 _ rfl (by decide) (by decide)).mono ?_
                  rintro e w5 ⟨v5, rfl, hown5, hb5⟩
                  obtain ⟨X5, k5, rfl, -, hr5, hn5⟩ := Rd.of_own hown5
                  have hzq := BQ.out.size
                  have hz5 := hb5.size
                  obtain ⟨A4, c4, w4, hrun, hown4, hb4⟩ := app_own W3.heap.size A1 m k1 _ X5 4 k5 (lowB x 4) w5 (own_below OQ.out hb5) hr5 (by simp) (fun h => (hn5 h).1) (by omega) (by omega)
                  have HB4 := Lib.hid ((BQ.out.trans (hb5.mono hzq)).trans hb4)
                  have R4 : Hid (w4.ownsRow W3.heap.size 5 1 (.slice A4 (m + 4) c4) (emitAt (cs.take (k + 1)) l 0).length (bytesC (emitAt (cs.take (k + 1)) l 0))) := by
                    rw [HEM2.out, List.length_append, ← HM.out, lowB_length]; exact hown4
                  clear hown4 hb4 hown5 hb5 hr5 hn5 hcl2 hcx hcc
                  go_wp2_with (at_builtin; refine wpList_app rfl _ _ 31 rfl rfl rfl hrun ?_)
                  go_roundw
                  case rel => exact ⟨k + 1, by omega, by go_num, by rw [HC4.out]; go_num, R4, OK4, HB4⟩
                  case measure => simp [intOf]; omega
                · have hd : decide (4294967296 ≤ x) = true := by simpa using hxx
                  go_wp2_with fail
                  go_quiet (fail)
                  go_wp2_with fail
                  refine bodyPost_ret (v := .tuple #[.slice none 0 0, .bool false]) (by simp [results, Try.results34, go_sem]) rfl ⟨_, _, rfl, (fun h => by cases h), HD3.out.trans ((below_drewN HB.out nq).mono HD3.out.size)⟩
            · have hkl : cs.take k = cs := List.take_of_length_le (by have := HSZ.out; omega)
              rw [hkl] at HO HOK
              rw [hkl]
              clear hkl
              go_wp2_with fail
              refine bodyPost_ret (v := .tuple #[.slice A1 (emitAt cs l 0).length k1, .bool true]) (by simp [results, Try.results34, go_sem]) rfl ⟨_, _, rfl, fun _ => ⟨hlp, by rw [← HN.out]; exact HLN.out, (fun h => HK2.out (by first | exact h | trivial)), HOK.out, own_lower HO.out HD3.out.size⟩, HD3.out.trans (HB.out.mono HD3.out.size)⟩
        · have hd2 : decide (2147483648 ≤ x2) = true := by simpa using hbig
          go_enter Try.func34, Try.ntmps34
          go_wp2_with fail
          refine (fields_calls 0 s cs _ HS.out).mono ?_
          rintro e w1 ⟨rfl, hb1⟩
          rw [← HN.out]
          have hc21 := cells_one hb1 hc2
          have HB1 := Lib.hid hb1
          clear hb1
          go_wp2_with fail
          refine bodyPost_ret (v := .tuple #[.slice none 0 0, .bool false]) (by simp [results, Try.results34, go_sem]) rfl ⟨_, _, rfl, (fun h => by cases h), HB1.out⟩
      · have hK1 : ((K : Int) == 0) = false := by rw [beq_eq_false_iff_ne]; exact hK0
        have HK2 : Hid (K = 0 → l.getD 2 0 < 2147483648) := fun h => absurd h hK0
        go_enter Try.func34, Try.ntmps34
        go_wp2_with fail
        refine (fields_calls K s cs _ HS.out).mono ?_
        rintro e w1 ⟨rfl, hb1⟩
        rw [← HN.out]
        have HB1 := Lib.hid hb1
        clear hb1
        go_wp2_with fail
        refine (HS.out.calls w1).mono ?_
        rintro e w2 ⟨rfl, hb2⟩
        have HB2 := Lib.hid (below_trans HB1.out hb2)
        have hz2 := HB2.out.size
        clear hb2
        go_wp2_with fail
        obtain ⟨W3, hW3⟩ : ∃ W3, W3 = Lib.bytesWorld w2 5 s := ⟨_, rfl⟩
        have B3 : Below w2.heap.size w2 W3 := by rw [hW3]; exact below_bytes w2 5 s
        have HCO : Hid (∀ (j c : Nat), cs[j]? = some c → W3.cell? ⟨w2.heap.size, j, none⟩ = some (.int .u8 (c : Int))) := fun j c hj => by
          have hjs : j < s.size := by have := (List.getElem?_eq_some_iff.1 hj).1; have := HSZ.out; omega
          rw [hW3, Lib.bytesWorld_cell w2 5 s j hjs]
          obtain ⟨c', h1, h2, -⟩ := HS.out.at_ j hjs
          rw [hj] at h1
          injection h1 with h1
          have e : s.data.toList.getD j 0 = (s[j]'hjs) := by
            rw [List.getD_eq_getElem?_getD, List.getElem?_eq_getElem (by simpa using hjs)]; rfl
          rw [e, h2, h1]
        have hz3 := B3.size
        have hz23 : w2.heap.size < W3.heap.size := by rw [hW3, Lib.bytesWorld_size]; omega
        have HD3 := Lib.hid (HB2.out.trans (B3.mono hz2))
        rw [← hW3]
        clear hW3 B3
        go_loopw [6, 7, 35] (fun v a i wr => ∃ k : Nat, k ≤ s.size ∧ i = .int .i64 (k : Nat) ∧ a = .int .i64 (cnt (cs.take k) : Nat) ∧ Hid (wr.ownsRow W3.heap.size 5 1 v (emitAt (cs.take k) l 0).length (bytesC (emitAt (cs.take k) l 0))) ∧ Hid (OkAt (cs.take k) l 0) ∧ Hid (Below W3.heap.size W3 wr)) (fun _ _ i _ => s.size - (intOf i).toNat)
        case atStart => exact ⟨0, Nat.zero_le _, rfl, by simp [cnt], World.ownsRow_nil _ _ _ _, Lib.hid trivial, Below.refl _ _⟩
        case round =>
          obtain ⟨k, hk, rfl, rfl, HO, HOK, HB⟩ := hrel
          have hbs := HB.out.size
          have hmle : (emitAt (cs.take k) l 0).length ≤ 36 := by
            have h1 := emitAt_le (cs.take k) l (fun c hc => by have := HS.out.each c (List.mem_of_mem_take hc); omega) 0
            have h2 : (cs.take k).length ≤ 9 := by rw [List.length_take]; omega
            omega
          obtain ⟨A1, k1, rfl, -, -, -⟩ := Rd.of_own HO.out
          by_cases hlt : k < s.size
          · obtain ⟨c', hc1, -, hc3⟩ := HS.out.at_ k hlt
            have hc4 := HS.out.each c' hc3
            have hcc := cells_one HB.out (HCO.out k c' hc1)
            have hsn : cs.take (k + 1) = cs.take k ++ [c'] := by rw [List.take_add_one, hc1]; rfl
            have hcn := cnt_snoc (cs.take k) c'
            have hem := emitAt_snoc (cs.take k) c' l 0
            have hoki := okAt_snoc (cs.take k) c' l 0
            rw [← hsn] at hcn hem hoki
            have hcl2 := cnt_take_le cs (k + 1)
            rw [hcn, ← HN.out] at hcl2
            rw [Nat.zero_add] at hem hoki
            have HCN := Lib.hid hcn
            have HEM := Lib.hid hem
            have HOKI := Lib.hid hoki
            obtain ⟨m, hm⟩ : ∃ m, m = (emitAt (cs.take k) l 0).length := ⟨_, rfl⟩
            rw [← hm] at HO hmle
            rw [← hm]
            have HM := Lib.hid hm
            obtain ⟨a, ha⟩ : ∃ a, a = cnt (cs.take k) := ⟨_, rfl⟩
            rw [← ha] at hcl2 HCN HEM HOKI
            rw [← ha]
            clear hcn hem hoki hsn hc1 hc3 hm ha
            rcases hc4 with rfl | rfl | rfl | rfl
            · have D0 : Below wr.heap.size wr (wr.alloc (.cells #[.int .u8 0] 5)) := (Below.refl _ _).alloc (Nat.le_refl _) _
              have rd1 : Rd (wr.alloc (.cells #[.int .u8 0] 5)) (some ⟨wr.heap.size, 0, none⟩) (bytesC [0]) := fun _ => ⟨wr.heap.size, 0, rfl, fun j u hj => by
                have h := cell_one_new wr (.int .u8 0) 5 j u (by simpa [bytesC] using hj)
                rwa [Addr.add_lit] at h⟩
              obtain ⟨A4, c4, w4, hrun, hown4, hb4⟩ := app_own W3.heap.size A1 m k1 _ (some ⟨wr.heap.size, 0, none⟩) 1 1 [0] (wr.alloc (.cells #[.int .u8 0] 5)) (own_below HO.out D0) rd1 rfl (fun h => by cases h) (by omega) (by have := D0.size; omega)
              have HB4 := Lib.hid ((HB.out.trans (D0.mono hbs)).trans hb4)
              have R4 : Hid (w4.ownsRow W3.heap.size 5 1 (.slice A4 (m + 1) c4) (emitAt (cs.take (k + 1)) l 0).length (bytesC (emitAt (cs.take (k + 1)) l 0))) := by
                rw [HEM.out, if_pos rfl, List.length_append, ← HM.out]; exact hown4
              have OK4 : Hid (OkAt (cs.take (k + 1)) l 0) := HOKI.out.2 ⟨HOK.out, fun h => absurd rfl h⟩
              have HC4 : Hid (cnt (cs.take (k + 1)) = a) := HCN.out
              clear D0 rd1 hown4 hb4 hcl2
              go_wp2_with (at_builtin; refine wpList_app rfl _ _ 31 rfl rfl rfl hrun ?_)
              go_roundw
              case rel => exact ⟨k + 1, by omega, by go_num, by rw [HC4.out], R4, OK4, HB4⟩
              case measure => simp [intOf]; omega
            · rw [if_neg (by decide)] at hcl2
              have hal : a < l.length := by have := HLN.out; omega
              have hxr := HL.out _ (List.getElem_mem hal)
              have hcx := cells_one (HD3.out.trans (HB.out.mono HD3.out.size)) (HCELL.out a _ (by rw [u64C, List.getElem?_map, List.getElem?_eq_getElem hal]; rfl))
              have hgd : l.getD a 0 = l[a] := by rw [List.getD_eq_getElem?_getD, List.getElem?_eq_getElem hal]; rfl
              obtain ⟨x, hx⟩ : ∃ x, x = l[a] := ⟨_, rfl⟩
              rw [← hx] at hcx hxr hgd
              have HGD := Lib.hid hgd
              clear hx hgd
              by_cases hxx : x < 256
              · have hd : decide (256 ≤ x) = false := by simpa using hxx
                have HEM2 : Hid (emitAt (cs.take (k + 1)) l 0 = emitAt (cs.take k) l 0 ++ lowB x 1) := by rw [HEM.out, if_neg (by decide), HGD.out]; rfl
                have OK4 : Hid (OkAt (cs.take (k + 1)) l 0) := HOKI.out.2 ⟨HOK.out, fun _ => by rw [HGD.out]; exact ⟨hxr.1, by simpa using hxx⟩⟩
                have HC4 : Hid (cnt (cs.take (k + 1)) = a + 1) := HCN.out
                go_wp2_with fail
                go_quiet (fail)
                have BQ := Lib.hid (below_drewN HB.out nq)
                have OQ := Lib.hid (own_below HO.out (below_drewN (Below.refl _ wr) nq))
                go_wp2_with fail
                refine (low_calls x 1 1 _ rfl (by decide) (by decide)).mono ?_
                rintro e w5 ⟨v5, rfl, hown5, hb5⟩
                obtain ⟨X5, k5, rfl, -, hr5, hn5⟩ := Rd.of_own hown5
                have hzq := BQ.out.size
                have hz5 := hb5.size
                obtain ⟨A4, c4, w4, hrun, hown4, hb4⟩ := app_own W3.heap.size A1 m k1 _ X5 1 k5 (lowB x 1) w5 (own_below OQ.out hb5) hr5 (by simp) (fun h => (hn5 h).1) (by omega) (by omega)
                have HB4 := Lib.hid ((BQ.out.trans (hb5.mono hzq)).trans hb4)
                have R4 : Hid (w4.ownsRow W3.heap.size 5 1 (.slice A4 (m + 1) c4) (emitAt (cs.take (k + 1)) l 0).length (bytesC (emitAt (cs.take (k + 1)) l 0))) := by
                  rw [HEM2.out, List.length_append, ← HM.out, lowB_length]; exact hown4
                clear hown4 hb4 hown5 hb5 hr5 hn5 hcl2 hcx hcc
                go_wp2_with (at_builtin; refine wpList_app rfl _ _ 31 rfl rfl rfl hrun ?_)
                go_roundw
                case rel => exact ⟨k + 1, by omega, by go_num, by rw [HC4.out]; go_num, R4, OK4, HB4⟩
                case measure => simp [intOf]; omega
              · have hd : decide (256 ≤ x) = true := by simpa using hxx
                go_wp2_with fail
                go_quiet (fail)
                go_wp2_with fail
                refine bodyPost_ret (v := .tuple #[.slice none 0 0, .bool false]) (by simp [results, Try.results34, go_sem]) rfl ⟨_, _, rfl, (fun h => by cases h), HD3.out.trans ((below_drewN HB.out nq).mono HD3.out.size)⟩
            · rw [if_neg (by decide)] at hcl2
              have hal : a < l.length := by have := HLN.out; omega
              have hxr := HL.out _ (List.getElem_mem hal)
              have hcx := cells_one (HD3.out.trans (HB.out.mono HD3.out.size)) (HCELL.out a _ (by rw [u64C, List.getElem?_map, List.getElem?_eq_getElem hal]; rfl))
              have hgd : l.getD a 0 = l[a] := by rw [List.getD_eq_getElem?_getD, List.getElem?_eq_getElem hal]; rfl
              obtain ⟨x, hx⟩ : ∃ x, x = l[a] := ⟨_, rfl⟩
              rw [← hx] at hcx hxr hgd
              have HGD := Lib.hid hgd
              clear hx hgd
              by_cases hxx : x < 65536
              · have hd : decide (65536 ≤ x) = false := by simpa using hxx
                have HEM2 : Hid (emitAt (cs.take (k + 1)) l 0 = emitAt (cs.take k) l 0 ++ lowB x 2) := by rw [HEM.out, if_neg (by decide), HGD.out]; rfl
                have OK4 : Hid (OkAt (cs.take (k + 1)) l 0) := HOKI.out.2 ⟨HOK.out, fun _ => by rw [HGD.out]; exact ⟨hxr.1, by simpa using hxx⟩⟩
                have HC4 : Hid (cnt (cs.take (k + 1)) = a + 1) := HCN.out
                go_wp2_with fail
                go_quiet (fail)
                have BQ := Lib.hid (below_drewN HB.out nq)
                have OQ := Lib.hid (own_below HO.out (below_drewN (Below.refl _ wr) nq))
                go_wp2_with fail
                refine (low_calls x 2 2 _ rfl (by decide) (by decide)).mono ?_
                rintro e w5 ⟨v5, rfl, hown5, hb5⟩
                obtain ⟨X5, k5, rfl, -, hr5, hn5⟩ := Rd.of_own hown5
                have hzq := BQ.out.size
                have hz5 := hb5.size
                obtain ⟨A4, c4, w4, hrun, hown4, hb4⟩ := app_own W3.heap.size A1 m k1 _ X5 2 k5 (lowB x 2) w5 (own_below OQ.out hb5) hr5 (by simp) (fun h => (hn5 h).1) (by omega) (by omega)
                have HB4 := Lib.hid ((BQ.out.trans (hb5.mono hzq)).trans hb4)
                have R4 : Hid (w4.ownsRow W3.heap.size 5 1 (.slice A4 (m + 2) c4) (emitAt (cs.take (k + 1)) l 0).length (bytesC (emitAt (cs.take (k + 1)) l 0))) := by
                  rw [HEM2.out, List.length_append, ← HM.out, lowB_length]; exact hown4
                clear hown4 hb4 hown5 hb5 hr5 hn5 hcl2 hcx hcc
                go_wp2_with (at_builtin; refine wpList_app rfl _ _ 31 rfl rfl rfl hrun ?_)
                go_roundw
                case rel => exact ⟨k + 1, by omega, by go_num, by rw [HC4.out]; go_num, R4, OK4, HB4⟩
                case measure => simp [intOf]; omega
              · have hd : decide (65536 ≤ x) = true := by simpa using hxx
                go_wp2_with fail
                go_quiet (fail)
                go_wp2_with fail
                refine bodyPost_ret (v := .tuple #[.slice none 0 0, .bool false]) (by simp [results, Try.results34, go_sem]) rfl ⟨_, _, rfl, (fun h => by cases h), HD3.out.trans ((below_drewN HB.out nq).mono HD3.out.size)⟩
            · rw [if_neg (by decide)] at hcl2
              have hal : a < l.length := by have := HLN.out; omega
              have hxr := HL.out _ (List.getElem_mem hal)
              have hcx := cells_one (HD3.out.trans (HB.out.mono HD3.out.size)) (HCELL.out a _ (by rw [u64C, List.getElem?_map, List.getElem?_eq_getElem hal]; rfl))
              have hgd : l.getD a 0 = l[a] := by rw [List.getD_eq_getElem?_getD, List.getElem?_eq_getElem hal]; rfl
              obtain ⟨x, hx⟩ : ∃ x, x = l[a] := ⟨_, rfl⟩
              rw [← hx] at hcx hxr hgd
              have HGD := Lib.hid hgd
              clear hx hgd
              by_cases hxx : x < 4294967296
              · have hd : decide (4294967296 ≤ x) = false := by simpa using hxx
                have HEM2 : Hid (emitAt (cs.take (k + 1)) l 0 = emitAt (cs.take k) l 0 ++ lowB x 4) := by rw [HEM.out, if_neg (by decide), HGD.out]; rfl
                have OK4 : Hid (OkAt (cs.take (k + 1)) l 0) := HOKI.out.2 ⟨HOK.out, fun _ => by rw [HGD.out]; exact ⟨hxr.1, by simpa using hxx⟩⟩
                have HC4 : Hid (cnt (cs.take (k + 1)) = a + 1) := HCN.out
                go_wp2_with fail
                go_quiet (fail)
                have BQ := Lib.hid (below_drewN HB.out nq)
                have OQ := Lib.hid (own_below HO.out (below_drewN (Below.refl _ wr) nq))
                go_wp2_with fail
                refine (low_calls x 4 4 _ rfl (by decide) (by decide)).mono ?_
                rintro e w5 ⟨v5, rfl, hown5, hb5⟩
                obtain ⟨X5, k5, rfl, -, hr5, hn5⟩ := Rd.of_own hown5
                have hzq := BQ.out.size
                have hz5 := hb5.size
                obtain ⟨A4, c4, w4, hrun, hown4, hb4⟩ := app_own W3.heap.size A1 m k1 _ X5 4 k5 (lowB x 4) w5 (own_below OQ.out hb5) hr5 (by simp) (fun h => (hn5 h).1) (by omega) (by omega)
                have HB4 := Lib.hid ((BQ.out.trans (hb5.mono hzq)).trans hb4)
                have R4 : Hid (w4.ownsRow W3.heap.size 5 1 (.slice A4 (m + 4) c4) (emitAt (cs.take (k + 1)) l 0).length (bytesC (emitAt (cs.take (k + 1)) l 0))) := by
                  rw [HEM2.out, List.length_append, ← HM.out, lowB_length]; exact hown4
                clear hown4 hb4 hown5 hb5 hr5 hn5 hcl2 hcx hcc
                go_wp2_with (at_builtin; refine wpList_app rfl _ _ 31 rfl rfl rfl hrun ?_)
                go_roundw
                case rel => exact ⟨k + 1, by omega, by go_num, by rw [HC4.out]; go_num, R4, OK4, HB4⟩
                case measure => simp [intOf]; omega
              · have hd : decide (4294967296 ≤ x) = true := by simpa using hxx
                go_wp2_with fail
                go_quiet (fail)
                go_wp2_with fail
                refine bodyPost_ret (v := .tuple #[.slice none 0 0, .bool false]) (by simp [results, Try.results34, go_sem]) rfl ⟨_, _, rfl, (fun h => by cases h), HD3.out.trans ((below_drewN HB.out nq).mono HD3.out.size)⟩
          · have hkl : cs.take k = cs := List.take_of_length_le (by have := HSZ.out; omega)
            rw [hkl] at HO HOK
            rw [hkl]
            clear hkl
            go_wp2_with fail
            refine bodyPost_ret (v := .tuple #[.slice A1 (emitAt cs l 0).length k1, .bool true]) (by simp [results, Try.results34, go_sem]) rfl ⟨_, _, rfl, fun _ => ⟨hlp, by rw [← HN.out]; exact HLN.out, (fun h => HK2.out (by first | exact h | trivial)), HOK.out, own_lower HO.out HD3.out.size⟩, HD3.out.trans (HB.out.mono HD3.out.size)⟩
  · have e1 : ((l.length : Int) != (n : Int)) = true := by rw [bne_iff_ne]; omega
    go_enter Try.func34, Try.ntmps34
    go_wp2_with (go_at_call 69; refine (fields_calls K s cs _ HS.out).mono ?_; rintro e w1 ⟨rfl, hb1⟩; rw [← HN.out])
    refine bodyPost_ret (v := .tuple #[.slice none 0 0, .bool false]) (by simp [results, Try.results34, go_sem]) rfl ⟨_, _, rfl, (fun h => by cases h), hb1⟩
end Go.Proofs.Ytbogknjgjbhagaa
