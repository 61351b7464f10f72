/- A function that is tried: it neither fails nor panics; what it answers is handed on. -/
import Derived.Test.YtbogknjgjbhagaaBase
import Derived.Defers
import Derived.Recover
namespace Go.Proofs.Ytbogknjgjbhagaa
open Go.RowKit

theorem alloc_at2 (w : World) (a b : Obj) : ((w.alloc a).alloc b).heap[w.heap.size]? = some a := by
  rw [heap_alloc_old _ b (by simp)]; exact heap_alloc_new w a
theorem alloc_at3 (w : World) (a b c : Obj) : (((w.alloc a).alloc b).alloc c).heap[w.heap.size]? = some a := by
  rw [heap_alloc_old _ c (by simp; omega)]; exact alloc_at2 w a b
theorem alloc_at3' (w : World) (a b c : Obj) : (((w.alloc a).alloc b).alloc c).heap[w.heap.size + 1]? = some b := by
  have := alloc_at2 (w.alloc a) b c
  simpa using this
theorem alloc_at4 (w : World) (a b c d : Obj) : ((((w.alloc a).alloc b).alloc c).alloc d).heap[w.heap.size]? = some a := by
  rw [heap_alloc_old _ d (by simp; omega)]; exact alloc_at3 w a b c
theorem alloc_at4' (w : World) (a b c d : Obj) : ((((w.alloc a).alloc b).alloc c).alloc d).heap[w.heap.size + 1]? = some b := by
  have := alloc_at3 (w.alloc a) b c d
  simpa using this
theorem alloc_at4'' (w : World) (a b c d : Obj) : ((((w.alloc a).alloc b).alloc c).alloc d).heap[w.heap.size + 2]? = some c := by
  have := alloc_at3' (w.alloc a) b c d
  simpa using this
theorem below4 (w : World) (a b c d : Obj) : Below w.heap.size w ((((w.alloc a).alloc b).alloc c).alloc d) :=
  ((((Below.refl _ w).alloc (Nat.le_refl _) a).alloc (by simp) b).alloc (by simp; omega) c).alloc (by simp; omega) d
theorem below3 (w : World) (a b c : Obj) : Below w.heap.size w (((w.alloc a).alloc b).alloc c) :=
  (((Below.refl _ w).alloc (Nat.le_refl _) a).alloc (by simp) b).alloc (by simp; omega) c
theorem below2 (w : World) (a b : Obj) : Below w.heap.size w ((w.alloc a).alloc b) :=
  ((Below.refl _ w).alloc (Nat.le_refl _) a).alloc (by simp) b
/-- What grew behind a world that is as an elder one was below its size, the one row written lying above. -/
theorem below_grown {w w1 w2 : World} {row : Option Nat} (h : Below w.heap.size w w1) (hg : w1.grownBy w2 row) (hr : ∀ k, row = some k → w.heap.size ≤ k) : Below w.heap.size w w2 := h.grown hg h.size hr
theorem cells_below {w w1 : World} {b o : Nat} {cs : List Value} (hb : Below w.heap.size w w1) (h : ∀ j u, cs[j]? = some u → w.cell? ⟨b, o + j, none⟩ = some u) : ∀ j u, cs[j]? = some u → w1.cell? ⟨b, o + j, none⟩ = some u := by
  intro j u hj
  have h1 := h j u hj
  rw [hb.cell (World.block_lt_of_cell? w _ h1)]
  exact h1

/-- A store into one variable of an elder world, all else below it being as it was. -/
theorem grown_store {w w2 : World} (h : Below w.heap.size w w2) (nb : Nat) (v : Value) : w.grownBy (w2.setCell ⟨nb, 0, none⟩ v) (some nb) :=
  ⟨h.os, h.tape, h.output, by have := h.size; simp [World.setCell]; omega, fun k hk hne => by rw [Below.heap_setCell _ _ _ _ (fun e => hne (by simp at e; rw [e])), h.block k hk]⟩

theorem catch_idle (p : Addr) (w : World) :
    CallsD Try.prog 80 #[.pointer (some p)] .returning w fun e u' w' => e = .returned (.tuple #[]) ∧ u' = .returning ∧ w' = w := by
  refine callsD_of_wpS Try.func80 rfl fun c₀ cs hu => ?_
  apply wpS_seq
  apply wpS_region
  simp [wpOpsS, go_sem, recoverD, hu, Try.ntmps80, Exit.thenS]
  refine wpS_cond (t := false) (by simp [Act.eval, Array.replicate]) ?_
  simp only [Bool.false_eq_true, if_false]
  refine wpS_of_wp (wp_skip ?_)
  cases c₀
  simp_all [bodyPostS, results, Try.results80]

theorem try_calls (G : Nat) (cap : Array Value) (w : World) (row : Option Nat) (r : Bool) (Post : World → Prop)
    (hG : ∀ w, (callFunc G cap).run Try.prog w = .ok (.enter G cap) w) (hrow : row ≠ some w.heap.size)
    (hcl : Calls Try.prog G cap (w.alloc (.cells #[.bool false] 4)) fun e w' => e = .returned (.bool r) ∧ (w.alloc (.cells #[.bool false] 4)).grownBy w' row ∧ Post w')
    (hpost : ∀ w', Post w' → Post (w'.setCell ⟨w.heap.size, 0, none⟩ (.bool r))) :
    Calls Try.prog 41 #[.func (.func G) #[] cap] w fun e w' => e = .returned (.bool r) ∧ w.grownBy w' row ∧ Post w' := by
  have hmf : ∀ (fn : Fn) (first cap : Array Value) (w : World), (Instr.makeFunc fn first cap).run Try.prog w = .ok (.func fn first cap) w := fun _ _ _ _ => rfl
  have HC := Lib.hid hcl
  have HP := Lib.hid hpost
  clear hcl hpost
  go_enter_defers Try.func41, Try.ntmps41
  go_wp2_with fail
  refine HC.out.mono ?_
  rintro e w2 ⟨rfl, hg, hp⟩
  have hblk : w2.heap[w.heap.size]? = some (.cells #[.bool false] 4 (0, 0)) := by
    rw [hg.block w.heap.size (by simp) (fun e => hrow e.symm)]; exact heap_alloc_new w _
  have hcell := cell_of_one hblk
  have hfree := free_of_one hblk
  have HG := Lib.hid hg
  have HPW := Lib.hid hp
  have HB := Lib.hid hblk
  clear hg hp hblk
  go_wp2
  refine leaves_cons (f := 80) (args := #[.pointer (some ⟨w.heap.size, 0, none⟩)]) (by simp) (by simp [go_sem]) ?_
  refine (catch_idle ⟨w.heap.size, 0, none⟩ _).mono ?_
  rintro e u' w3 ⟨rfl, rfl, rfl⟩
  have hcell2 := cell_of_one (one_setCell (u := .bool r) HB.out)
  have hfin : w.grownBy (w2.setCell ⟨w.heap.size, 0, none⟩ (.bool r)) row ∧ Post (w2.setCell ⟨w.heap.size, 0, none⟩ (.bool r)) := by
    refine ⟨?_, HP.out _ HPW.out⟩
    have h := HG.out
    refine ⟨h.os, h.tape, h.output, ?_, fun k hk hne => ?_⟩
    · have := h.size; simp [World.setCell] at this ⊢; omega
    · rw [Below.heap_setCell _ _ _ _ (by simp; omega), h.block k (by simp; omega) hne, heap_alloc_old w _ hk]
  simp [Leaves, settle, results, Try.results41, go_sem, hcell2]
  exact hfin
end Go.Proofs.Ytbogknjgjbhagaa
