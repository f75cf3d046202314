/- The lists by age, with their trees or without. -/
import Derived.Test.YbulkcrkqLists
import Derived.Test.YbulkcrkqAgeOf
namespace Go.Proofs.Ybulkcrkq
open Go.ChangeShapes Go.WideShapes Go.ChangeAt Go.RowKit
set_option maxHeartbeats 1000000
set_option maxRecDepth 20000
set_option linter.unusedVariables false

/-- The ages along a list of cores. -/
def agesOf (wdf idf : Nat → Int) (l : List Nat) (i : Nat) : Int := ageOf (wdf (l.getD i 0)) (idf (l.getD i 0))

/-- The list of mode m: its cores are l. -/
structure OneList (w : World) (L : Nat) (Y : Nat → Prop) (g : Nat → Value) (m : Nat) (l : List Nat) (wdf idf : Nat → Int) : Prop where
  emp : l = [] → ∃ a cap, g (4 * m) = .slice a 0 cap
  full : l ≠ [] → ∃ tb cap, g (4 * m) = .slice (some ⟨tb, 0, none⟩) l.length cap ∧ (∀ i, i < l.length → w.cell? ⟨tb, i, none⟩ = some (.pointer (some ⟨l.getD i 0, 0, none⟩))) ∧ ¬ Y tb ∧ tb ≠ L
  tree : g (4 * m + 1) = .slice none 0 0 ∨ (l ≠ [] ∧ TreeIs w Y (4 * m) l.length (agesOf wdf idf l) g)

/-- The six lists in block L. -/
def Lists (w : World) (L : Nat) (Y : Nat → Prop) (ls : Nat → List Nat) (wdf idf : Nat → Int) : Prop :=
  ∃ g, RowAt w L 124 24 g ∧ ∀ m, m < 6 → OneList w L Y g m (ls m) wdf idf

theorem TreeIs.turnedBy {w w' : World} {Y : Nat → Prop} {p n : Nat} {ag : Nat → Int} {g : Nat → Value} {T : Nat → Prop} (h : TreeIs w Y p n ag g) (hT : Turned w w' T) (hTY : ∀ N, RowAt w N 128 0 (fun _ => .pointer none) ∨ True → T N → Y N ∨ ∃ e n g, e ≠ 128 ∧ RowAt w N e n g) : TreeIs w' Y p n ag g := by
  obtain ⟨N, d, bs, lo, hi, h1, h2, h3, hN, hk, hy⟩ := h
  refine ⟨N, d, bs, lo, hi, h1, h2, h3, hT.row hN (fun ht => ?_), hk, hy⟩
  rcases hTY N (.inr trivial) ht with h | ⟨e, n', g', he, hr⟩
  · exact hy h
  · obtain ⟨C, hc, _⟩ := hN
    obtain ⟨C', hc', _⟩ := hr
    rw [hc] at hc'
    cases hc'
    exact he rfl

/-- One list stays under writes to Y and to L, if its cells in L stay. -/
theorem OneList.turned {w w' : World} {L : Nat} {Y : Nat → Prop} {g g' : Nat → Value} {m : Nat} {l : List Nat} {wdf idf : Nat → Int} {e : TypeId} {nL : Nat} (h : OneList w L Y g m l wdf idf) (hR : RowAt w L 124 24 g) (hT : Turned w w' (fun b => Y b ∨ b = L)) (hg : ∀ j, 4 * m ≤ j → j < 4 * m + 4 → g' j = g j) : OneList w' L Y g' m l wdf idf := by
  refine ⟨fun hl => ?_, fun hl => ?_, ?_⟩
  · obtain ⟨a, cap, e⟩ := h.emp hl
    exact ⟨a, cap, (hg _ (by omega) (by omega)).trans e⟩
  · obtain ⟨tb, cap, h1, h2, h3, h4⟩ := h.full hl
    exact ⟨tb, cap, (hg _ (by omega) (by omega)).trans h1, fun i hi => hT.cell (h2 i hi) (fun h => h.elim h3 h4), h3, h4⟩
  · rcases h.tree with h1 | ⟨hl, h1⟩
    · exact .inl ((hg _ (by omega) (by omega)).trans h1)
    · refine .inr ⟨hl, ?_⟩
      obtain ⟨N, d, bs, lo, hi, k1, k2, k3, k4, k5, k6⟩ := h1.turnedBy hT (fun N _ ht => ht.imp id (fun (e : N = L) => ⟨124, 24, g, by decide, e ▸ hR⟩))
      exact ⟨N, d, bs, lo, hi, (hg _ (by omega) (by omega)).trans k1, (hg _ (by omega) (by omega)).trans k2, (hg _ (by omega) (by omega)).trans k3, k4, k5, k6⟩

/-- The lists stay under writes to Y. -/
theorem Lists.turned {w w' : World} {L : Nat} {Y : Nat → Prop} {ls : Nat → List Nat} {wdf idf : Nat → Int} {T : Nat → Prop} (h : Lists w L Y ls wdf idf) (hT : Turned w w' T) (hTY : ∀ b, b < w.heap.size → T b → Y b) (hL : ¬ Y L) : Lists w' L Y ls wdf idf := by
  obtain ⟨g, hR, ha⟩ := h
  have hT' := hT.mono (T' := Y) (fun b hb ht => hTY b hb ht)
  exact ⟨g, hT'.row hR hL, fun m hm => (ha m hm).turned (e := 0) (nL := 0) hR (hT'.mono (fun b _ h => .inl h)) (fun _ _ _ => rfl)⟩

/-- Other blocks to keep off. -/
theorem Lists.other {w : World} {L : Nat} {Y Y' : Nat → Prop} {ls : Nat → List Nat} {wdf idf : Nat → Int} (h : Lists w L Y ls wdf idf) (hY : ∀ b, Y' b → w.heap.size ≤ b) : Lists w L Y' ls wdf idf := by
  obtain ⟨g, hR, ha⟩ := h
  refine ⟨g, hR, fun m hm => ⟨(ha m hm).emp, fun hl => ?_, ?_⟩⟩
  · obtain ⟨tb, cap, h1, h2, h3, h4⟩ := (ha m hm).full hl
    refine ⟨tb, cap, h1, h2, fun hy => ?_, h4⟩
    have h0 : 0 < (ls m).length := List.length_pos_iff.2 hl
    have := World.block_lt_of_cell? w _ (h2 0 h0)
    have := hY tb hy
    simp only at *
    omega
  · rcases (ha m hm).tree with h1 | ⟨hl, N, d, bs, lo, hi, k1, k2, k3, k4, k5, k6⟩
    · exact .inl h1
    · refine .inr ⟨hl, N, d, bs, lo, hi, k1, k2, k3, k4, k5, fun hy => ?_⟩
      have := k4.lt
      have := hY N hy
      omega

theorem getD_ptr (l : List Nat) (i : Nat) (hi : i < l.length) : (l.map cptr)[i]? = some (.pointer (some ⟨l.getD i 0, 0, none⟩)) := by
  rw [List.getElem?_map]
  have : l[i]? = some (l.getD i 0) := by simp [List.getD, hi]
  rw [this]
  rfl

/-- The lists as listsByAge leaves them. -/
theorem lists_of_txns {w : World} {L base : Nat} {P : Nat → Prop} {ls : Nat → List Nat} (Y : Nat → Prop) (wdf idf : Nat → Int) (h : TxnsAt w L base P ls) (hY : ∀ b, Y b → b < base) : Lists w L Y ls wdf idf := by
  obtain ⟨g, vv, hR, ha, _⟩ := h
  refine ⟨g, hR, fun m hm => ?_⟩
  obtain ⟨h1, h2, h3, h4, _⟩ := ha m hm
  refine ⟨fun hl => ?_, fun hl => ?_, .inl h2⟩
  · rw [h1]
    rcases h3.2 with ⟨e, _⟩ | ⟨k, cap, cur, e, _, _⟩
    · exact ⟨_, _, e⟩
    · rw [hl] at e
      exact ⟨_, _, e⟩
  · rcases h3.2 with ⟨_, e⟩ | ⟨k, cap, cur, e, hb, hk, _⟩
    · exact absurd (List.length_eq_zero_iff.1 e) hl
    · refine ⟨k, cap, by rw [h1, e], fun i hi => ?_, fun hy => by have := hY k hy; omega, fun hk' => h4 (by rw [e]; simp [Value.ownBlock, hk'])⟩
      rw [e] at h3
      rw [h3.cellAt i (by omega), getD_ptr _ _ hi]
end Go.Proofs.Ybulkcrkq
