/- Rows of memory that the call itself has made, as functions from places to values. -/
import Derived.Test.YbulkcrkqRows
import Derived.WalkKit
import Derived.ProofKit
import Derived.Below
import Derived.WalkSpells
import Derived.WalkLawsBesides
namespace Go.Proofs.Ybulkcrkq
open Go.ChangeShapes Go.WideShapes Go.ChangeAt Go.RowKit

/-- Block b is a row of n cells of type e, none frozen, cell j holding g j. -/
def RowAt (w : World) (b : Nat) (e : TypeId) (n : Nat) (g : Nat → Value) : Prop :=
  ∃ C : Array Value, w.heap[b]? = some (.cells C e (0, 0)) ∧ C.size = n ∧ ∀ j, j < n → C[j]? = some (g j)

/-- The function g with v at place k. -/
def upd (g : Nat → Value) (k : Nat) (v : Value) (j : Nat) : Value := if j = k then v else g j

theorem upd_same (g : Nat → Value) (k : Nat) (v : Value) : upd g k v k = v := by simp [upd]
theorem upd_other (g : Nat → Value) (k : Nat) (v : Value) {j : Nat} (h : j ≠ k) : upd g k v j = g j := by simp [upd, h]

section
variable {w : World} {b : Nat} {e : TypeId} {n : Nat} {g : Nat → Value}

theorem RowAt.cell (h : RowAt w b e n g) {j : Nat} (hj : j < n) : w.cell? ⟨b, j, none⟩ = some (g j) := by
  obtain ⟨C, hb, _, hc⟩ := h
  simp [World.cell?, hb, hc j hj]

theorem RowAt.frozen (h : RowAt w b e n g) (j : Nat) : w.frozen? ⟨b, j, none⟩ = false := by
  obtain ⟨C, hb, _, _⟩ := h
  simp [World.frozen?, hb]

theorem RowAt.lt (h : RowAt w b e n g) : b < w.heap.size := by
  obtain ⟨C, hb, _⟩ := h
  exact (Array.getElem?_eq_some_iff.1 hb).1

theorem RowAt.congr {g' : Nat → Value} (h : RowAt w b e n g) (hg : ∀ j, j < n → g j = g' j) : RowAt w b e n g' := by
  obtain ⟨C, hb, hs, hc⟩ := h
  exact ⟨C, hb, hs, fun j hj => by rw [hc j hj, hg j hj]⟩

theorem RowAt.of_block {w' : World} (h : RowAt w b e n g) (hb : w'.heap[b]? = w.heap[b]?) : RowAt w' b e n g := by
  obtain ⟨C, h1, h2, h3⟩ := h
  exact ⟨C, hb.trans h1, h2, h3⟩

theorem RowAt.alloc (h : RowAt w b e n g) (o : Obj) : RowAt (w.alloc o) b e n g :=
  h.of_block (Below.heap_alloc w o b h.lt)

theorem RowAt.drew (h : RowAt w b e n g) : RowAt w.drew b e n g := h

theorem RowAt.below {w' : World} {B : Nat} (h : RowAt w b e n g) (hw : Below B w w') (hb : b < B) : RowAt w' b e n g :=
  h.of_block (hw.block b hb)

theorem RowAt.other (h : RowAt w b e n g) (a : Addr) (v : Value) (hne : b ≠ a.block) : RowAt (w.setCell a v) b e n g :=
  h.of_block (Below.heap_setCell w a v b hne)

theorem RowAt.set (h : RowAt w b e n g) (k : Nat) (v : Value) (hk : k < n) : RowAt (w.setCell ⟨b, k, none⟩ v) b e n (upd g k v) := by
  have hlt := h.lt
  obtain ⟨C, hb, hs, hc⟩ := h
  refine ⟨C.setIfInBounds k v, ?_, by simp [hs], fun j hj => ?_⟩
  · simp [World.setCell, Array.getElem?_modify, hb]
  · rw [Array.getElem?_setIfInBounds]
    by_cases e : k = j
    · subst e; simp [hs, hk, upd]
    · simp [e, hc j hj, upd, Ne.symm e]

/-- The row of zeros that 'make' lays. -/
def zeros (z : Value) (n : Nat) : Array Value := madeCells #[z] n

theorem row_made (w : World) (z : Value) (n : Nat) (e : TypeId) : RowAt (w.alloc (.cells (zeros z n) e)) w.heap.size e n (fun _ => z) := by
  refine ⟨zeros z n, (MapKept.heap_alloc w _).1, size_madeCells _ _, fun j hj => ?_⟩
  simp [zeros, madeCells, hj, Nat.mod_one]

theorem row_lit (w : World) (C : Array Value) (e : TypeId) (n : Nat) (hn : C.size = n) (g : Nat → Value) (hg : ∀ j, j < n → C[j]? = some (g j)) : RowAt (w.alloc (.cells C e)) w.heap.size e n g :=
  ⟨C, (MapKept.heap_alloc w _).1, hn, hg⟩
end

/-- The row (a, len) of integers of kind k that a slice shows: nothing is known of the address where len is 0. -/
def Shows (k : IntKind) (f : Nat → Int) (a : Option Addr) (len : Nat) (w : World) : Prop :=
  len = 0 ∨ ∃ b off, a = some ⟨b, off, none⟩ ∧ b < w.heap.size ∧ ∀ j, j < len → w.cell? ⟨b, off + j, none⟩ = some (.int k (f j))

theorem Shows.below {k : IntKind} {f : Nat → Int} {a : Option Addr} {len : Nat} {w w' : World} (h : Shows k f a len w) (hw : Below w.heap.size w w') : Shows k f a len w' := by
  rcases h with h | ⟨b, off, rfl, hb, hc⟩
  · exact .inl h
  · exact .inr ⟨b, off, rfl, Nat.lt_of_lt_of_le hb hw.size, fun j hj => (hw.cell (p := ⟨b, off + j, none⟩) hb).trans (hc j hj)⟩

/-- From the frame's reading of a slice of integers to 'Shows', with the numbers' bounds. -/
theorem shows_of {k : IntKind} {w : World} {a : Option Addr} {len cap : Nat} {zs : List Int}
    (h : (a = none ∧ len = 0 ∧ cap = 0 ∧ zs = []) ∨ ∃ x, a = some x ∧ len ≤ cap ∧ cap ≤ maxLen ∧ zs.length = cap ∧ (∀ i, i < zs.length → w.cell? (x.add i) = some (.int k (zs.getD i 0))) ∧ ∀ n ∈ zs, (Lit.int k n).wf = true) :
    ∃ f : Nat → Int, Shows k f a len w ∧ len ≤ 9223372036854775807 ∧ ∀ j, (Lit.int k (f j)).wf = true := by
  have hw0 : (Lit.int k 0).wf = true := by cases k <;> decide
  rcases h with ⟨rfl, rfl, rfl, rfl⟩ | ⟨x, rfl, hl, hm, hz, hc, hwf⟩
  · exact ⟨fun _ => 0, .inl rfl, by omega, fun _ => hw0⟩
  · refine ⟨fun j => zs.getD j 0, ?_, by unfold maxLen at hm; omega, fun j => ?_⟩
    · by_cases h0 : len = 0
      · exact .inl h0
      · obtain ⟨b, off, spot⟩ := x
        have hs : spot = none := by
          have h := hc 0 (by omega)
          cases spot with
          | none => rfl
          | some s => simp [Addr.add, World.cell?] at h; split at h <;> simp at h
        subst hs
        refine .inr ⟨b, off, rfl, ?_, fun j hj => ?_⟩
        · have h := hc 0 (by omega)
          simp only [Addr.add, World.cell?] at h
          simp at h
          split at h
          · rename_i hb; exact (Array.getElem?_eq_some_iff.1 hb).1
          · cases h
        · have h := hc j (by omega)
          by_cases hk0 : j = 0
          · subst hk0; simpa [Addr.add] using h
          · simpa [Addr.add, hk0] using h
    · show (Lit.int k (zs.getD j 0)).wf = true
      by_cases hj : j < zs.length
      · have e : zs.getD j 0 = zs[j] := by simp [List.getD, hj]
        rw [e]; exact hwf _ (List.getElem_mem hj)
      · have e : zs.getD j 0 = 0 := by simp [List.getD, hj]
        rw [e]; exact hw0

end Go.Proofs.Ybulkcrkq
