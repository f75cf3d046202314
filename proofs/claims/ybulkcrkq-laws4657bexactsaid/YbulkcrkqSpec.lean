/- The specification as it comes in. -/
import Derived.Test.YbulkcrkqAtom
import Derived.Deep.SlicePairs
import Derived.ChangeArms
namespace Go.Proofs.Ybulkcrkq
open Go.ChangeShapes Go.WideShapes Go.ChangeAt Go.RowKit Go.Deep
set_option maxRecDepth 20000
set_option linter.unusedVariables false

theorem cells102 : Yba.prog.cellsOf 102 = 3 := by kernel_rfl
theorem cells5 : Yba.prog.cellsOf 5 = 1 := by kernel_rfl
theorem cells4 : Yba.prog.cellsOf 4 = 1 := by kernel_rfl

theorem holder_of {H : Type} {enc : TypeId × Value → H} {w : World} {base : Nat} {spare : Nat → Bool} {held : Bool} {n : Nat} {cs : List Value} {y : DataW H × List MemPlace} (h : DataW.trod enc Yba.prog w base spare held n 102 cs = some y) :
    ∃ (i m : Int) (b : Bool), cs = [.int .u8 i, .int .u8 m, .bool b] ∧ (Lit.int .u8 i).wf = true ∧ (Lit.int .u8 m).wf = true := by
  obtain ⟨xs, k, _, _, hl, hxl, hf⟩ := DataW.trod_struct Yba.underlying102 h
  rw [cells102] at hl
  match xs, hxl, cs, hl with
  | [y0, y1, y2], _, [v0, v1, v2], _ =>
    have g0 := hf 0 _ rfl
    have g1 := hf 1 _ rfl
    have g2 := hf 2 _ rfl
    simp [cells5, cells4] at g0 g1 g2
    obtain ⟨i, e0, _, w0⟩ := DataW.trod_int Yba.underlying5 g0
    obtain ⟨m, e1, _, w1⟩ := DataW.trod_int Yba.underlying5 g1
    obtain ⟨b, e2, _⟩ := DataW.trod_bool Yba.underlying4 g2
    simp at e0 e1 e2
    exact ⟨i, m, b, by rw [e0, e1, e2], w0, w1⟩

theorem u8_wf {i : Int} (h : (Lit.int .u8 i).wf = true) : 0 ≤ i ∧ i ≤ 255 := by
  simpa [Lit.wf, IntKind.min, IntKind.max, IntKind.bits, IntKind.signed] using h

theorem addr_add (b off k : Nat) : (⟨b, off, none⟩ : Addr).add k = ⟨b, off + k, none⟩ := by
  by_cases h : k = 0
  · subst h; simp [Addr.add]
  · simp [Addr.add, h]

theorem spec_of {H : Type} {enc : TypeId × Value → H} {w : World} {base : Nat} {spare : Nat → Bool} {held : Bool} {fuel : Nat} {sa : Option Addr} {n sc : Nat} {x : DataW H × List MemPlace} (h : DataW.trod enc Yba.prog w base spare held fuel 36 [.slice sa n sc] = some x) :
    ∃ (I M : Nat → Int) (W : Nat → Bool), (∀ j, 0 ≤ I j ∧ I j ≤ 255) ∧ (∀ j, 0 ≤ M j ∧ M j ≤ 255) ∧ SpecAt w sa n I M W := by
  by_cases hn : n = 0
  · exact ⟨fun _ => 0, fun _ => 0, fun _ => false, by simp, by simp, ⟨.inl hn⟩⟩
  rcases open_slice Yba.underlying36 h with ⟨hcs, _⟩ | ⟨a, len, cap, m, k, D, Pl, hcs, _, hl, _, hmm, _, hx⟩
  · simp at hcs
    omega
  · simp at hcs
    obtain ⟨rfl, rfl, rfl⟩ := hcs
    have hlm : n ≤ m := by rw [hmm]; split <;> omega
    rw [cells102] at hx
    have each : ∀ i, i < m → ∃ q : Int × Int × Bool, w.cell? (a.add (i * 3)) = some (.int .u8 q.1) ∧ w.cell? (a.add (i * 3 + 1)) = some (.int .u8 q.2.1) ∧ w.cell? (a.add (i * 3 + 2)) = some (.bool q.2.2) ∧ (Lit.int .u8 q.1).wf = true ∧ (Lit.int .u8 q.2.1).wf = true := by
      intro i hi
      obtain ⟨cs', h1, h2⟩ := hx i hi
      obtain ⟨z, mm, b, rfl, w0, w1⟩ := holder_of h2
      obtain ⟨_, _, hcell⟩ := World.cells?_some h1
      have e0 := hcell 0 (by omega)
      have e1 := hcell 1 (by omega)
      have e2 := hcell 2 (by omega)
      rw [add_add] at e0 e1 e2
      exact ⟨(z, mm, b), by simpa using e0, by simpa using e1, by simpa using e2, w0, w1⟩
    have : Nonempty (Int × Int × Bool) := ⟨(0, 0, false)⟩
    obtain ⟨q, hq⟩ := choose_lt each
    obtain ⟨b, off, spot⟩ := a
    have hs : spot = none := by
      have h := (hq 0 (by omega)).1
      cases spot with
      | none => rfl
      | some s => simp [Addr.add, World.cell?] at h; split at h <;> simp at h
    subst hs
    refine ⟨fun j => if j < m then (q j).1 else 0, fun j => if j < m then (q j).2.1 else 0, fun j => (q j).2.2, fun j => ?_, fun j => ?_, ⟨.inr ⟨b, off, rfl, ?_, fun j hj => ?_⟩⟩⟩
    · by_cases hj : j < m
      · simp only [hj, if_true]; exact u8_wf (hq j hj).2.2.2.1
      · simp [hj]
    · by_cases hj : j < m
      · simp only [hj, if_true]; exact u8_wf (hq j hj).2.2.2.2
      · simp [hj]
    · have h := World.block_lt_of_cell? w _ (hq 0 (by omega)).1
      simpa [Addr.add] using h
    · have hjm : j < m := by omega
      have h := hq j hjm
      simp only [addr_add] at h
      simp only [hjm, if_true]
      exact ⟨h.1, h.2.1, h.2.2.1⟩
end Go.Proofs.Ybulkcrkq
