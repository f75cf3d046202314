/- zzs4657acores: four new cores and a nil. -/
import Derived.Test.YbulkcrkqMap
namespace Go.Proofs.Ybulkcrkq
open Go.ChangeShapes Go.WideShapes Go.ChangeAt Go.RowKit
set_option maxHeartbeats 400000

/-- The pointer in slot t of the array of cores, the first of which is block q. -/
def cp (q t : Nat) : Option Addr := if t < 4 then some ⟨q + t, 0, none⟩ else none

theorem cp_inj {q s t : Nat} (hs : s < 5) (ht : t < 5) (h : cp q s = cp q t) : s = t := by
  unfold cp at h
  by_cases h1 : s < 4 <;> by_cases h2 : t < 4 <;> simp [h1, h2] at h <;> omega

theorem IsCore.of_block {w w' : World} {b : Nat} (h : IsCore w ⟨b, 0, none⟩) (hb : w'.heap[b]? = w.heap[b]?) : IsCore w' ⟨b, 0, none⟩ := by
  obtain ⟨b', C, e, h1⟩ := h
  cases e
  exact ⟨_, C, rfl, hb.trans h1⟩

theorem isCore_new (w : World) (C : Array Value) : IsCore (w.alloc (.cells C 88)) ⟨w.heap.size, 0, none⟩ := ⟨_, C, rfl, (MapKept.heap_alloc w _).1⟩

theorem cores_step {w wr : World} {j : Nat} (hj : j < 4) (hsz : wr.heap.size = w.heap.size + 2 + j) (hR0 : RowAt wr (w.heap.size) 24 5 (fun _ => .pointer none))
    (hR : RowAt wr (w.heap.size + 1) 24 5 (fun i => .pointer (if i < j then some ⟨w.heap.size + 2 + i, 0, none⟩ else none))) (hC : ∀ i, i < j → IsCore wr ⟨w.heap.size + 2 + i, 0, none⟩) (hB : Below w.heap.size w wr) (C : Array Value) :
    (((wr.alloc (.cells C 88)).setCell ⟨w.heap.size + 1, j, none⟩ (.pointer (some ⟨w.heap.size + 2 + j, 0, none⟩))).heap.size = w.heap.size + 2 + (j + 1)) ∧
    RowAt ((wr.alloc (.cells C 88)).setCell ⟨w.heap.size + 1, j, none⟩ (.pointer (some ⟨w.heap.size + 2 + j, 0, none⟩))) (w.heap.size) 24 5 (fun _ => .pointer none) ∧
    RowAt ((wr.alloc (.cells C 88)).setCell ⟨w.heap.size + 1, j, none⟩ (.pointer (some ⟨w.heap.size + 2 + j, 0, none⟩))) (w.heap.size + 1) 24 5 (fun i => .pointer (if i < j + 1 then some ⟨w.heap.size + 2 + i, 0, none⟩ else none)) ∧
    (∀ i, i < j + 1 → IsCore ((wr.alloc (.cells C 88)).setCell ⟨w.heap.size + 1, j, none⟩ (.pointer (some ⟨w.heap.size + 2 + j, 0, none⟩))) ⟨w.heap.size + 2 + i, 0, none⟩) ∧
    Below w.heap.size w ((wr.alloc (.cells C 88)).setCell ⟨w.heap.size + 1, j, none⟩ (.pointer (some ⟨w.heap.size + 2 + j, 0, none⟩))) := by
  refine ⟨?_, (hR0.alloc _).other _ _ (by simp), ?_, fun i hi => ?_, (hB.alloc (by omega) _).setCell (by simp) _⟩
  · simp [World.setCell, hsz]; omega
  · refine ((hR.alloc _).set j _ (by omega)).congr (fun i hi => ?_)
    by_cases e : i = j
    · subst e; simp [upd]
    · have : (i < j + 1) = (i < j) := by simp; omega
      simp [upd, e, this]
  · by_cases e : i = j
    · subst e
      have h := isCore_new wr C
      rw [hsz] at h
      exact h.of_block (Below.heap_setCell _ _ _ _ (by simp; omega))
    · exact ((hC i (by omega)).of_block (Below.heap_alloc wr _ _ (by omega))).of_block (Below.heap_setCell _ _ _ _ (by simp; omega))

theorem cores_any (w : World)  :
    Calls Yba.prog 7 #[] w fun e w' => e = .returned (.agg #[.pointer (some ⟨w.heap.size + 2, 0, none⟩), .pointer (some ⟨w.heap.size + 2 + 1, 0, none⟩), .pointer (some ⟨w.heap.size + 2 + 2, 0, none⟩), .pointer (some ⟨w.heap.size + 2 + 3, 0, none⟩), .pointer none]) ∧
      ((∀ t, t < 4 → IsCore w' ⟨w.heap.size + 2 + t, 0, none⟩) ∧ w'.heap.size = w.heap.size + 6 ∧ Below w.heap.size w w') := by
  go_enter Yba.func7, Yba.ntmps7
  go_wp2_with fail
  go_loopw [2] (fun t wr => ∃ (j : Nat), t = .int .i64 j ∧ j ≤ 4 ∧ wr.heap.size = w.heap.size + 2 + j ∧ RowAt wr (w.heap.size) 24 5 (fun _ => .pointer none) ∧ RowAt wr (w.heap.size + 1) 24 5 (fun i => .pointer (if i < j then some ⟨w.heap.size + 2 + i, 0, none⟩ else none)) ∧ (∀ i, i < j → IsCore wr ⟨w.heap.size + 2 + i, 0, none⟩) ∧ Below w.heap.size w wr) (fun t _ => 4 - (intOf t).toNat)
  case atStart =>
    have hl : ∀ j, j < 5 → (#[Value.pointer none, .pointer none, .pointer none, .pointer none, .pointer none] : Array Value)[j]? = some (.pointer none) := by
      intro j hj
      have h : j = 0 ∨ j = 1 ∨ j = 2 ∨ j = 3 ∨ j = 4 := by omega
      rcases h with rfl | rfl | rfl | rfl | rfl <;> rfl
    refine ⟨0, rfl, by omega, by simp, (row_lit w _ 24 5 rfl _ hl).alloc _, ?_, fun i hi => by omega, ((Below.refl _ _).alloc (Nat.le_refl _) _).alloc (by simp) _⟩
    have h := row_lit (w.alloc (.cells #[Value.pointer none, .pointer none, .pointer none, .pointer none, .pointer none] 24)) _ 24 5 rfl (fun _ => .pointer none) hl
    simpa using h
  case round =>
    obtain ⟨j, rfl, hj, hsz, hR0, hR, hC, hB⟩ := hrel
    by_cases hlt : j < 4
    · have hr := fun o => (hR.alloc o).cell (j := j) (by omega)
      have hfr := fun o => (hR.alloc o).frozen j
      have hstep := cores_step hlt hsz hR0 hR hC hB
      go_wp2_with fail
      go_roundw
      case rel => exact ⟨j + 1, by go_num, by omega, hstep _⟩
      case measure => simp [intOf]; omega
    · have hj4 : j = 4 := by omega
      subst hj4
      have c0 := hR.cell (j := 0) (by omega)
      have c1 := hR.cell (j := 1) (by omega)
      have c2 := hR.cell (j := 2) (by omega)
      have c3 := hR.cell (j := 3) (by omega)
      have c4 := hR.cell (j := 4) (by omega)
      simp at c0 c1 c2 c3 c4
      have d0 := hR0.cell (j := 0) (by omega)
      have d1 := hR0.cell (j := 1) (by omega)
      have d2 := hR0.cell (j := 2) (by omega)
      have d3 := hR0.cell (j := 3) (by omega)
      have d4 := hR0.cell (j := 4) (by omega)
      have f0 := hR0.frozen 0
      have f1 := hR0.frozen 1
      have f2 := hR0.frozen 2
      have f3 := hR0.frozen 3
      have f4 := hR0.frozen 4
      go_wp2_with fail
      refine bodyPost_ret (v := .agg #[.pointer (some ⟨w.heap.size + 2, 0, none⟩), .pointer (some ⟨w.heap.size + 2 + 1, 0, none⟩), .pointer (some ⟨w.heap.size + 2 + 2, 0, none⟩), .pointer (some ⟨w.heap.size + 2 + 3, 0, none⟩), .pointer none]) (by simp [results, Yba.results7, go_sem, d0, d1, d2, d3, d4]) rfl ⟨rfl, ?_, ?_, ?_⟩
      · intro t ht
        refine (hC t ht).of_block ?_
        repeat rw [Below.heap_setCell _ _ _ _ (by simp; omega)]
      · simp [World.setCell, hsz]
      · exact ((((hB.setCell (by simp) _).setCell (by simp) _).setCell (by simp) _).setCell (by simp) _).setCell (by simp) _

end Go.Proofs.Ybulkcrkq
