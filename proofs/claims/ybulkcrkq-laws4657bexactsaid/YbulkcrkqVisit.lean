/- places: the slots of one age, one by one. -/
import Derived.Test.YbulkcrkqLay
namespace Go.Proofs.Ybulkcrkq
open Go.ChangeShapes Go.WideShapes Go.ChangeAt Go.RowKit
set_option maxHeartbeats 1000000
set_option maxRecDepth 20000
set_option linter.unusedVariables false

/-- One after the other is yielded until go says no: what has been yielded then, and whether go never said no. -/
def visit (go : List Nat → Bool) : List Nat → List Nat → List Nat × Bool
  | l, [] => (l, true)
  | l, c :: cs => if go (l ++ [c]) then visit go (l ++ [c]) cs else (l ++ [c], false)

theorem visit_yes {go : List Nat → Bool} {l : List Nat} {c : Nat} (h : go (l ++ [c]) = true) (cs : List Nat) : visit go l (c :: cs) = visit go (l ++ [c]) cs := by
  show (if go (l ++ [c]) then _ else _) = _
  rw [if_pos h]
theorem visit_no {go : List Nat → Bool} {l : List Nat} {c : Nat} (h : go (l ++ [c]) = false) (cs : List Nat) : visit go l (c :: cs) = (l ++ [c], false) := by
  show (if go (l ++ [c]) then _ else _) = _
  rw [if_neg (by simp [h])]
theorem visit_one (go : List Nat → Bool) (l : List Nat) (c : Nat) : visit go l [c] = (l ++ [c], go (l ++ [c])) := by
  cases h : go (l ++ [c]) with
  | true => rw [visit_yes h]; rfl
  | false => rw [visit_no h]

theorem visit_on (go : List Nat → Bool) : ∀ (a l b : List Nat), (visit go l a).2 = true → visit go l (a ++ b) = visit go (visit go l a).1 b
  | [], l, b => fun _ => rfl
  | c :: a, l, b => by
    intro h
    rw [List.cons_append]
    cases hg : go (l ++ [c]) with
    | true =>
      rw [visit_yes hg] at h ⊢
      rw [visit_yes hg]
      exact visit_on go a _ b h
    | false =>
      rw [visit_no hg] at h
      cases h

theorem visit_off (go : List Nat → Bool) : ∀ (a l b : List Nat), (visit go l a).2 = false → visit go l (a ++ b) = visit go l a
  | [], l, b => fun h => by cases h
  | c :: a, l, b => by
    intro h
    rw [List.cons_append]
    cases hg : go (l ++ [c]) with
    | true =>
      rw [visit_yes hg] at h ⊢
      rw [visit_yes hg]
      exact visit_off go a _ b h
    | false => rw [visit_no hg, visit_no hg]

theorem visit_mem (go : List Nat → Bool) : ∀ (a l : List Nat) x, x ∈ (visit go l a).1 → x ∈ l ∨ x ∈ a
  | [], l, x => fun h => .inl h
  | c :: a, l, x => by
    cases hg : go (l ++ [c]) with
    | true =>
      rw [visit_yes hg]
      intro hx
      rcases visit_mem go a (l ++ [c]) x hx with h | h
      · simp at h
        rcases h with h | h
        · exact .inl h
        · exact .inr (by simp [h])
      · exact .inr (List.mem_cons_of_mem _ h)
    | false =>
      rw [visit_no hg]
      intro hx
      simp at hx
      rcases hx with h | h
      · exact .inl h
      · exact .inr (by simp [h])

/-- Bounds hold an id of the age looked for. -/
def hold (older : Bool) (q lo hi : Int) : Bool := if older then decide (lo < q) else decide (q < hi)

/-- The closure that tells it. -/
def holdsV (older : Bool) (B : Nat) : Value := .func (.func (if older then 36 else 35)) #[] #[.pointer (some ⟨B, 0, none⟩)]

theorem holds35 (B : Nat) (q lo hi : Int) (w : World) (h : w.cell? ⟨B, 0, none⟩ = some (.int .u64 q)) :
    Calls Yba.prog 35 #[.agg #[.int .u64 lo, .int .u64 hi], .pointer (some ⟨B, 0, none⟩)] w fun e w' => e = .returned (.bool (decide (q < hi))) ∧ w.alloc (.cells #[.int .u64 lo, .int .u64 hi] 128) = w' := by
  have hl := World.block_lt_of_cell? w _ h
  simp only at hl
  go_enter Yba.func35, Yba.ntmps35
  go_wp2_with fail
  go_ret
  exact ⟨rfl, rfl⟩

theorem holds36 (B : Nat) (q lo hi : Int) (w : World) (h : w.cell? ⟨B, 0, none⟩ = some (.int .u64 q)) :
    Calls Yba.prog 36 #[.agg #[.int .u64 lo, .int .u64 hi], .pointer (some ⟨B, 0, none⟩)] w fun e w' => e = .returned (.bool (decide (lo < q))) ∧ w.alloc (.cells #[.int .u64 lo, .int .u64 hi] 128) = w' := by
  have hl := World.block_lt_of_cell? w _ h
  simp only at hl
  go_enter Yba.func36, Yba.ntmps36
  go_wp2_with fail
  go_ret
  exact ⟨rfl, rfl⟩

/-- The places of the window whose slot lies among the len from lo on and that are ok. -/
def cand (n bs : Nat) (ok : Nat → Bool) (lo len : Nat) : List Nat := ((List.range' lo len).filter (fun s => decide (bs ≤ s) && decide (s < bs + n) && ok (s - bs))).map (fun s => s - bs)

theorem cand_split (n bs : Nat) (ok : Nat → Bool) (lo a b : Nat) : cand n bs ok lo (a + b) = cand n bs ok lo a ++ cand n bs ok (lo + a) b := by
  unfold cand
  rw [← List.range'_append_1, List.filter_append, List.map_append]

theorem mem_cand {n bs : Nat} {ok : Nat → Bool} {lo len i : Nat} : i ∈ cand n bs ok lo len ↔ i < n ∧ lo ≤ bs + i ∧ bs + i < lo + len ∧ ok i = true := by
  unfold cand
  simp only [List.mem_map, List.mem_filter, List.mem_range'_1, Bool.and_eq_true, decide_eq_true_eq]
  constructor
  · rintro ⟨s, ⟨⟨h1, h2⟩, ⟨h3, h4⟩, h5⟩, rfl⟩
    exact ⟨by omega, by omega, by omega, h5⟩
  · rintro ⟨h1, h2, h3, h4⟩
    exact ⟨bs + i, ⟨⟨h2, h3⟩, ⟨by omega, by omega⟩, by rw [show bs + i - bs = i by omega]; exact h4⟩, by omega⟩

theorem cand_nil {n bs : Nat} {ok : Nat → Bool} {lo len : Nat} (h : ∀ i, i < n → lo ≤ bs + i → bs + i < lo + len → ok i = false) : cand n bs ok lo len = [] := by
  rw [List.eq_nil_iff_forall_not_mem]
  intro i hi
  obtain ⟨h1, h2, h3, h4⟩ := mem_cand.1 hi
  rw [h i h1 h2 h3] at h4
  cases h4

theorem cand_one {n bs : Nat} {ok : Nat → Bool} {i : Nat} (h : i < n) (hk : ok i = true) : cand n bs ok (bs + i) 1 = [i] := by
  unfold cand
  have e : bs + i - bs = i := by omega
  simp [List.range', e, hk, h]

theorem cand_nodup (n bs : Nat) (ok : Nat → Bool) (lo len : Nat) : (cand n bs ok lo len).Nodup := by
  have h := (List.nodup_range' (s := lo) (n := len)).filter (fun s => decide (bs ≤ s) && decide (s < bs + n) && ok (s - bs))
  unfold cand
  rw [List.Nodup, List.pairwise_map]
  refine List.Pairwise.imp_of_mem ?_ h
  intro a b ha hb hab
  simp only [List.mem_filter, Bool.and_eq_true, decide_eq_true_eq] at ha hb
  omega

theorem cand_apart {n bs : Nat} {ok : Nat → Bool} {lo a b i : Nat} (h : i ∈ cand n bs ok (lo + a) b) : i ∉ cand n bs ok lo a := by
  intro h2
  have h1 := mem_cand.1 h
  have h3 := mem_cand.1 h2
  omega

theorem over_of {e k d lo s : Nat} (hk : k * 2 ^ e = 2 ^ d + lo) (h1 : lo ≤ s) (h2 : s < lo + 2 ^ e) : (2 ^ d + s) / 2 ^ e = k := by
  have hp : 0 < 2 ^ e := Nat.pos_of_ne_zero (by simp)
  have : 2 ^ d + s = (s - lo) + 2 ^ e * k := by
    rw [Nat.mul_comm, hk]
    omega
  rw [this, Nat.add_mul_div_left _ _ hp, Nat.div_eq_of_lt (by omega), Nat.zero_add]

/-- What the look at the places asks of the yield that it is given, and of the state J. -/
structure PlaceYield (L o N d bs n B : Nat) (q : Int) (older : Bool) (lo hi : Nat → Int) (ok : Nat → Bool) (c1 c2 : Value) (go : List Nat → Bool) (J : List Nat → World → Prop) : Prop where
  nds : ∀ l w, J l w → w.cell? ⟨L, o, none⟩ = some (.slice (some ⟨N, 0, none⟩) (2 * 2 ^ d) (2 * 2 ^ d))
  base : ∀ l w, J l w → w.cell? ⟨L, o + 2, none⟩ = some (.int .i64 (bs : Nat))
  row : ∀ l w, J l w → RowAt w N 128 (2 * 2 ^ d * 2) (nd lo hi)
  box : ∀ l w, J l w → w.cell? ⟨B, 0, none⟩ = some (.int .u64 q)
  keep : ∀ l w w', J l w → Turned w w' (fun _ => False) → J l w'
  call : ∀ l i w, J l w → i < n → ok i = true → i ∉ l → Calls Yba.prog 27 #[.int .i64 (i : Nat), c1, c2] w fun e w' => e = .returned (.bool (go (l ++ [i]))) ∧ J (l ++ [i]) w'
end Go.Proofs.Ybulkcrkq
