/- Attributes with others within, as they lie in memory: rows of three cells, each in a block of a known set; their bytes in an elder world. -/
import Derived.Test.YtbogknjgjbhagaaPar3
namespace Go.Proofs.Ytbogknjgjbhagaa
open Go.RowKit

mutual
def XAt (w0 w : World) (F : Nat → Prop) : Value → Value → Value → Tree → Prop
  | a, b, c, .node t d ks => a = .int .i64 t ∧ AllB d ∧ d.length ≤ 9223372036854775807 ∧ BytesAt w0 b d ∧ ∃ A n, c = .slice A ks.length n ∧ ks.length ≤ n ∧ n ≤ 9223372036854775807 ∧ (ks ≠ [] → ∃ bb o, A = some ⟨bb, o, none⟩ ∧ F bb ∧ XsAt w0 w F bb o ks)
def XsAt (w0 w : World) (F : Nat → Prop) : Nat → Nat → List Tree → Prop
  | _, _, [] => True
  | bb, o, x :: r => (∃ a b c, w.cell? ⟨bb, o, none⟩ = some a ∧ w.cell? ⟨bb, o + 1, none⟩ = some b ∧ w.cell? ⟨bb, o + 2, none⟩ = some c ∧ XAt w0 w F a b c x) ∧ XsAt w0 w F bb (o + 3) r
end

mutual
theorem XAt.keep {w0 w w' : World} {F F' : Nat → Prop} (hk : ∀ g, F g → w'.heap[g]? = w.heap[g]? ∧ F' g) : ∀ (T : Tree) (a b c : Value), XAt w0 w F a b c T → XAt w0 w' F' a b c T
  | .node t d ks, a, b, c, h => by
    simp only [XAt] at h ⊢
    obtain ⟨h1, h2, h3, h4, A, n, h5, h6, h6', h7⟩ := h
    refine ⟨h1, h2, h3, h4, A, n, h5, h6, h6', fun hne => ?_⟩
    obtain ⟨bb, o, e, hF, hh⟩ := h7 hne
    exact ⟨bb, o, e, (hk bb hF).2, XsAt.keep hk ks bb o hF hh⟩
theorem XsAt.keep {w0 w w' : World} {F F' : Nat → Prop} (hk : ∀ g, F g → w'.heap[g]? = w.heap[g]? ∧ F' g) : ∀ (l : List Tree) (bb o : Nat), F bb → XsAt w0 w F bb o l → XsAt w0 w' F' bb o l
  | [], _, _, _, _ => by simp only [XsAt]
  | x :: r, bb, o, hF, h => by
    simp only [XsAt] at h ⊢
    obtain ⟨⟨a, b, c, h1, h2, h3, h4⟩, h5⟩ := h
    have e := (hk bb hF).1
    exact ⟨⟨a, b, c, (World.cell?_of_block e).trans h1, (World.cell?_of_block e).trans h2, (World.cell?_of_block e).trans h3, XAt.keep hk x a b c h4⟩, XsAt.keep hk r bb (o + 3) hF h5⟩
end
theorem XsAt.get {w0 w : World} {F : Nat → Prop} : ∀ (l : List Tree) (bb o k : Nat) (h : k < l.length), XsAt w0 w F bb o l → ∃ a b c, w.cell? ⟨bb, o + k * 3, none⟩ = some a ∧ w.cell? ⟨bb, o + k * 3 + 1, none⟩ = some b ∧ w.cell? ⟨bb, o + k * 3 + 2, none⟩ = some c ∧ XAt w0 w F a b c l[k]
  | x :: r, bb, o, 0, _, h => by simp only [XsAt] at h; simpa using h.1
  | x :: r, bb, o, k + 1, hk, h => by
    simp only [XsAt] at h
    have := XsAt.get r bb (o + 3) k (by simpa using hk) h.2
    rw [show o + (k + 1) * 3 = o + 3 + k * 3 from by omega]
    exact this
theorem XAt.shape {w0 w : World} {F : Nat → Prop} {a b c : Value} {t : Int} {d : List Int} {ks : List Tree} (h : XAt w0 w F a b c (.node t d ks)) :
    ∃ A k A' k', a = .int .i64 t ∧ b = .slice A d.length k ∧ c = .slice A' ks.length k' ∧ AllB d ∧ d.length ≤ 9223372036854775807 ∧ ks.length ≤ k' ∧ k' ≤ 9223372036854775807 ∧ BytesAt w0 (.slice A d.length k) d ∧ (ks ≠ [] → ∃ bb o, A' = some ⟨bb, o, none⟩ ∧ F bb ∧ XsAt w0 w F bb o ks) := by
  simp only [XAt] at h
  obtain ⟨h1, h2, h3, h4, A', n', h5, h6, h7, h8⟩ := h
  obtain ⟨A, k, e, r⟩ := h4
  exact ⟨A, k, A', n', h1, e, h5, h2, h3, h6, h7, ⟨A, k, rfl, r⟩, h8⟩

/-- The cells of such a record; a row of them. -/
def triH (p : Value × Value × Value) : List Value := [p.1, p.2.1, p.2.2]
theorem triH_length (p : Value × Value × Value) : (triH p).length = 3 := rfl
def XRow (w0 w : World) (F : Nat → Prop) (hs : List (Value × Value × Value)) (l : List Tree) : Prop := hs.length = l.length ∧ ∀ (i : Nat) (p : Value × Value × Value) (x : Tree), hs[i]? = some p → l[i]? = some x → XAt w0 w F p.1 p.2.1 p.2.2 x
theorem XRow.keep {w0 w w' : World} {F F' : Nat → Prop} {hs : List (Value × Value × Value)} {l : List Tree} (h : XRow w0 w F hs l) (hk : ∀ g, F g → w'.heap[g]? = w.heap[g]? ∧ F' g) : XRow w0 w' F' hs l :=
  ⟨h.1, fun i p x e1 e2 => XAt.keep hk _ _ _ _ (h.2 i p x e1 e2)⟩
theorem XRow.snoc {w0 w : World} {F : Nat → Prop} {hs : List (Value × Value × Value)} {l : List Tree} (h : XRow w0 w F hs l) {p : Value × Value × Value} {x : Tree} (h1 : XAt w0 w F p.1 p.2.1 p.2.2 x) : XRow w0 w F (hs ++ [p]) (l ++ [x]) := by
  refine ⟨by simp [h.1], fun k p' x' e1 e2 => ?_⟩
  by_cases hk : k < hs.length
  · rw [List.getElem?_append_left hk] at e1
    rw [List.getElem?_append_left (by rw [← h.1]; exact hk)] at e2
    exact h.2 k p' x' e1 e2
  · rw [List.getElem?_append_right (by omega)] at e1
    rw [List.getElem?_append_right (by rw [← h.1]; omega)] at e2
    have e : k - hs.length = 0 := by
      have := (List.getElem?_eq_some_iff.1 e1).1
      simp at this; omega
    rw [← h.1] at e2
    rw [e] at e1 e2
    simp at e1 e2
    subst e1 e2
    exact h1
theorem XRow.at_ {w0 w : World} {F : Nat → Prop} {g : Nat} : ∀ (hs : List (Value × Value × Value)) (l : List Tree) (o : Nat), XRow w0 w F hs l → (∀ j u, (fl triH hs)[j]? = some u → w.cell? ⟨g, o + j, none⟩ = some u) → XsAt w0 w F g o l
  | _, [], _, _, _ => by simp only [XsAt]
  | [], x :: r, _, h, _ => by have := h.1; simp at this
  | p :: hs, x :: r, o, h, hc => by
    simp only [XsAt]
    refine ⟨⟨p.1, p.2.1, p.2.2, hc 0 _ rfl, hc 1 _ rfl, hc 2 _ rfl, h.2 0 p x rfl rfl⟩, ?_⟩
    refine XRow.at_ hs r (o + 3) ⟨by simpa using h.1, fun i p' x' e1 e2 => h.2 (i + 1) p' x' (by simpa using e1) (by simpa using e2)⟩ (fun j u hj => ?_)
    rw [Nat.add_assoc]
    refine hc (3 + j) u ?_
    rw [show fl triH (p :: hs) = triH p ++ fl triH hs from by simp [fl], List.getElem?_append_right (by rw [triH_length]; omega), triH_length, Nat.add_sub_cancel_left]
    exact hj

-- Attributes that are compared: types in range, data or others within.
mutual
def Good : Tree → Prop
  | .node t d ks => 0 ≤ t ∧ t ≤ 65535 ∧ (d = [] ∨ ks = []) ∧ Goods ks
def Goods : List Tree → Prop
  | [] => True
  | x :: r => Good x ∧ Goods r
end
mutual
def cost : Tree → Nat
  | .node _ d ks => 8 + d.length + costs ks
def costs : List Tree → Nat
  | [] => 0
  | x :: r => cost x + costs r
end
mutual
theorem attrB_cost : ∀ T : Tree, (attrB T).length ≤ cost T
  | .node t d ks => by
    have h := attrsB_cost ks
    have h2 := attrB_len t d ks
    rw [cost]
    omega
theorem attrsB_cost : ∀ l : List Tree, (attrsB l).length ≤ costs l
  | [] => by simp [attrsB]
  | x :: r => by
    have h1 := attrB_cost x
    have h2 := attrsB_cost r
    rw [attrsB, costs, List.length_append]
    omega
end
theorem Goods.mem : ∀ {l : List Tree} {k : Nat} (h : k < l.length), Goods l → Good l[k]
  | x :: r, 0, _, h => by simp only [Goods] at h; simpa using h.1
  | x :: r, k + 1, hk, h => by
    simp only [Goods] at h
    have := Goods.mem (l := r) (k := k) (by simpa using hk) h.2
    simpa using this
theorem Goods.snoc : ∀ {l : List Tree} {x : Tree}, Goods (l ++ [x]) ↔ Goods l ∧ Good x
  | [], x => by simp [Goods]
  | y :: r, x => by simp [Goods, Goods.snoc (l := r), and_assoc]
theorem costs_snoc : ∀ (l : List Tree) (x : Tree), costs (l ++ [x]) = costs l + cost x
  | [], x => by simp [costs]
  | y :: r, x => by simp [costs, costs_snoc r x, Nat.add_assoc]
mutual
theorem XAt.tree {w0 w : World} {F : Nat → Prop} (hb : Below w0.heap.size w0 w) : ∀ (T : Tree) (a b c : Value), XAt w0 w F a b c T → Good T → TreeAt w a b c T
  | .node t d ks, a, b, c, h, hg => by
    simp only [XAt] at h
    simp only [Good] at hg
    simp only [TreeAt]
    obtain ⟨h1, h2, h3, h4, A, n, h5, h6, h6', h7⟩ := h
    refine ⟨h1, hg.1, by have := hg.2.1; omega, h2, h4.below hb, A, n, h5, h6, fun hne => ?_⟩
    obtain ⟨bb, o, e, _, hh⟩ := h7 hne
    exact ⟨bb, o, e, XsAt.trees hb ks bb o hh hg.2.2.2⟩
theorem XsAt.trees {w0 w : World} {F : Nat → Prop} (hb : Below w0.heap.size w0 w) : ∀ (l : List Tree) (bb o : Nat), XsAt w0 w F bb o l → Goods l → TreesAt w bb o l
  | [], _, _, _, _ => by simp only [TreesAt]
  | x :: r, bb, o, h, hg => by
    simp only [XsAt] at h
    simp only [Goods] at hg
    simp only [TreesAt]
    obtain ⟨⟨a, b, c, h1, h2, h3, h4⟩, h5⟩ := h
    exact ⟨⟨a, b, c, h1, h2, h3, XAt.tree hb x a b c h4 hg.1⟩, XsAt.trees hb r bb (o + 3) h5 hg.2⟩
end
end Go.Proofs.Ytbogknjgjbhagaa
