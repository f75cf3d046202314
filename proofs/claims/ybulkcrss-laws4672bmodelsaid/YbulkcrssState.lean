/- keyedState at height 0: slot, own, put, at. -/
import Derived.Test.YbulkcrssMem
import Derived.LaidEqlPtr
import Derived.RegionTactic
import Derived.BigRegion
import Derived.Deep.QuietTactic
import Derived.BigQuiet
namespace Go.Proofs.Ybulkcrss
open Go.ChangeShapes Go.WideShapes Go.ChangeAt Go.RowKit
set_option maxHeartbeats 400000
set_option maxRecDepth 20000
set_option linter.unusedVariables false

theorem slot_any (k : Nat) (w : World) (hk : k < 4) : Calls Yba.prog 13 #[.int .i64 k, .int .i64 0] w fun e w' => e = .returned (.int .i64 k) ∧ w' = w := by
  have h : k = 0 ∨ k = 1 ∨ k = 2 ∨ k = 3 := by omega
  rcases h with rfl | rfl | rfl | rfl
  all_goals
    go_enter Yba.func13, Yba.ntmps13
    go_wp2
    go_ret
    exact ⟨rfl, rfl⟩

/-- The cells of a keyedState of height 0. -/
def ksRow (root own : Option Nat) (j : Nat) : Value :=
  if j = 0 then .pointer (root.map fun r => ⟨r, 0, none⟩) else if j = 1 then .int .i64 0 else .pointer (own.map fun r => ⟨r, 0, none⟩)

/-- The cells of a leaf. -/
def ndRow (own : Nat) (p : Nat → Int) (j : Nat) : Value :=
  if j = 0 then .pointer (some ⟨own, 0, none⟩) else if j < 33 then .pointer none else .int .i32 (p (j - 33))

/-- Block sb is a keyedState that holds place p k (plus one) for key k: nothing yet, or one leaf of its own. -/
structure KSt (w : World) (sb : Nat) (p : Nat → Int) (root own : Option Nat) : Prop where
  row : RowAt w sb 47 3 (ksRow root own)
  hnone : root = none → ∀ k, p k = 0
  hsome : ∀ r, root = some r → ∃ o, own = some o ∧ RowAt w r 85 65 (ndRow o p) ∧ sb < r

def leafArr (o : Nat) : Array Value := #[.pointer (some ⟨o, 0, none⟩), .pointer none, .pointer none, .pointer none, .pointer none, .pointer none, .pointer none, .pointer none, .pointer none, .pointer none, .pointer none, .pointer none, .pointer none, .pointer none, .pointer none, .pointer none, .pointer none, .pointer none, .pointer none, .pointer none, .pointer none, .pointer none, .pointer none, .pointer none, .pointer none, .pointer none, .pointer none, .pointer none, .pointer none, .pointer none, .pointer none, .pointer none, .pointer none, .int .i32 0, .int .i32 0, .int .i32 0, .int .i32 0, .int .i32 0, .int .i32 0, .int .i32 0, .int .i32 0, .int .i32 0, .int .i32 0, .int .i32 0, .int .i32 0, .int .i32 0, .int .i32 0, .int .i32 0, .int .i32 0, .int .i32 0, .int .i32 0, .int .i32 0, .int .i32 0, .int .i32 0, .int .i32 0, .int .i32 0, .int .i32 0, .int .i32 0, .int .i32 0, .int .i32 0, .int .i32 0, .int .i32 0, .int .i32 0, .int .i32 0, .int .i32 0]

theorem leaf_lit (o : Nat) : ∀ j, j < 65 → (leafArr o)[j]? = some (ndRow o (fun _ => 0) j)
  | 0, _ => rfl
  | 1, _ => rfl
  | 2, _ => rfl
  | 3, _ => rfl
  | 4, _ => rfl
  | 5, _ => rfl
  | 6, _ => rfl
  | 7, _ => rfl
  | 8, _ => rfl
  | 9, _ => rfl
  | 10, _ => rfl
  | 11, _ => rfl
  | 12, _ => rfl
  | 13, _ => rfl
  | 14, _ => rfl
  | 15, _ => rfl
  | 16, _ => rfl
  | 17, _ => rfl
  | 18, _ => rfl
  | 19, _ => rfl
  | 20, _ => rfl
  | 21, _ => rfl
  | 22, _ => rfl
  | 23, _ => rfl
  | 24, _ => rfl
  | 25, _ => rfl
  | 26, _ => rfl
  | 27, _ => rfl
  | 28, _ => rfl
  | 29, _ => rfl
  | 30, _ => rfl
  | 31, _ => rfl
  | 32, _ => rfl
  | 33, _ => rfl
  | 34, _ => rfl
  | 35, _ => rfl
  | 36, _ => rfl
  | 37, _ => rfl
  | 38, _ => rfl
  | 39, _ => rfl
  | 40, _ => rfl
  | 41, _ => rfl
  | 42, _ => rfl
  | 43, _ => rfl
  | 44, _ => rfl
  | 45, _ => rfl
  | 46, _ => rfl
  | 47, _ => rfl
  | 48, _ => rfl
  | 49, _ => rfl
  | 50, _ => rfl
  | 51, _ => rfl
  | 52, _ => rfl
  | 53, _ => rfl
  | 54, _ => rfl
  | 55, _ => rfl
  | 56, _ => rfl
  | 57, _ => rfl
  | 58, _ => rfl
  | 59, _ => rfl
  | 60, _ => rfl
  | 61, _ => rfl
  | 62, _ => rfl
  | 63, _ => rfl
  | 64, _ => rfl
  | n + 65, h => absurd h (by omega)

def leaf0 : Array Value := #[.pointer none, .pointer none, .pointer none, .pointer none, .pointer none, .pointer none, .pointer none, .pointer none, .pointer none, .pointer none, .pointer none, .pointer none, .pointer none, .pointer none, .pointer none, .pointer none, .pointer none, .pointer none, .pointer none, .pointer none, .pointer none, .pointer none, .pointer none, .pointer none, .pointer none, .pointer none, .pointer none, .pointer none, .pointer none, .pointer none, .pointer none, .pointer none, .pointer none, .int .i32 0, .int .i32 0, .int .i32 0, .int .i32 0, .int .i32 0, .int .i32 0, .int .i32 0, .int .i32 0, .int .i32 0, .int .i32 0, .int .i32 0, .int .i32 0, .int .i32 0, .int .i32 0, .int .i32 0, .int .i32 0, .int .i32 0, .int .i32 0, .int .i32 0, .int .i32 0, .int .i32 0, .int .i32 0, .int .i32 0, .int .i32 0, .int .i32 0, .int .i32 0, .int .i32 0, .int .i32 0, .int .i32 0, .int .i32 0, .int .i32 0, .int .i32 0]
theorem zero85 (w : World) : (zeroValue 85).run Yba.prog w = .ok (.agg leaf0) w := by kernel_rfl
theorem leaf0_ne : (leaf0 = #[]) = False := by simp [leaf0]
theorem leaf0_set (o : Nat) : leaf0.setIfInBounds 0 (.pointer (some ⟨o, 0, none⟩)) = leafArr o := rfl

theorem below_drewN' (B : Nat) (w : World) (n : Nat) : Below B w (w.drewN n) := ⟨rfl, rfl, rfl, Nat.le_refl _, fun _ _ => rfl⟩

theorem own_new {w : World} {sb o : Nat} (hr : RowAt w sb 47 3 (ksRow none (some o))) :
    Calls Yba.prog 12 #[.pointer (some ⟨sb, 0, none⟩), .pointer (some ⟨sb, 0, none⟩)] w fun e w' => e = .returned (.pointer (some ⟨w.heap.size, 0, none⟩)) ∧
      (KSt w' sb (fun _ => 0) (some w.heap.size) (some o) ∧ Below sb w w') := by
  have hlt := hr.lt
  have c0 := hr.cell (j := 0) (by omega)
  have c2 := hr.cell (j := 2) (by omega)
  have f0 := hr.frozen 0
  simp [ksRow] at c0 c2
  have hz := zero85
  have hz1 := leaf0_ne
  have hz2 := leaf0_set o
  go_enter Yba.func12, Yba.ntmps12
  go_wp2_with fail
  go_quiet (fail)
  have hq : ∀ x, ((w.drewN nq).alloc x).cell? ⟨sb, 0, none⟩ = some (.pointer none) := fun x => (World.cell?_alloc_past (w := w.drewN nq) x sb 0 hlt).trans c0
  have hqf : ∀ x, ((w.drewN nq).alloc x).frozen? ⟨sb, 0, none⟩ = false := fun x => (World.frozen?_alloc_past (w := w.drewN nq) x sb 0 hlt).trans f0
  go_wp2_with fail
  go_ret
  refine ⟨rfl, ⟨?_, (fun h => by cases h), fun r hr' => ?_⟩, ?_⟩
  · refine (((hr.of_block (w' := w.drewN nq) rfl).alloc _).set 0 _ (by omega)).congr (fun i hi => ?_)
    have h : i = 0 ∨ i = 1 ∨ i = 2 := by omega
    rcases h with rfl | rfl | rfl <;> simp [upd, ksRow]
  · cases hr'
    exact ⟨o, rfl, (row_lit (w.drewN nq) (leafArr o) 85 65 rfl _ (leaf_lit o)).other _ _ (by simp; omega), hlt⟩
  · exact ((below_drewN' sb w nq).alloc (Nat.le_of_lt hlt) _).setCell (Nat.le_refl _) _

theorem info79 : ∃ j, Yba.prog.info? 79 = some j := by
  have h : (Yba.prog.info? 79).isSome = true := by kernel_rfl
  exact Option.isSome_iff_exists.1 h

theorem own_old {w : World} {sb r o : Nat} {p : Nat → Int} (h : KSt w sb p (some r) (some o)) :
    Calls Yba.prog 12 #[.pointer (some ⟨sb, 0, none⟩), .pointer (some ⟨sb, 0, none⟩)] w fun e w' => e = .returned (.pointer (some ⟨r, 0, none⟩)) ∧ ∃ k, w' = w.drewN k := by
  have c0 := h.row.cell (j := 0) (by omega)
  have c2 := h.row.cell (j := 2) (by omega)
  simp [ksRow] at c0 c2
  obtain ⟨o', ho, hR, _⟩ := h.hsome r rfl
  cases ho
  have d0 := hR.cell (j := 0) (by omega)
  simp [ndRow] at d0
  obtain ⟨j, hj⟩ := info79
  have heq := fun w => run_eql_ptr_same (P := Yba.prog) w ⟨o, 0, none⟩ Yba.underlying45 hj
  go_enter Yba.func12, Yba.ntmps12
  go_wp2_with fail
  go_quiet (fail)
  go_wp2_with fail
  go_ret
  exact ⟨rfl, _, rfl⟩

/-- The places behind a put. -/
def updp (p : Nat → Int) (k : Nat) (v : Int) (j : Nat) : Int := if j = k then v else p j

theorem KSt.put {w : World} {sb r o : Nat} {p : Nat → Int} (h : KSt w sb p (some r) (some o)) (k : Nat) (hk : k < 32) (v : Int) :
    KSt (w.setCell ⟨r, 33 + k, none⟩ (.int .i32 v)) sb (updp p k v) (some r) (some o) := by
  obtain ⟨o', ho, hR, hlt⟩ := h.hsome r rfl
  cases ho
  refine ⟨h.row.other _ _ (by simp; omega), (fun h => by cases h), fun r' hr' => ?_⟩
  cases hr'
  refine ⟨o, rfl, (hR.set (33 + k) _ (by omega)).congr (fun i hi => ?_), hlt⟩
  by_cases e : i = 33 + k
  · subst e
    have h1 : ¬ (33 + k < 33) := by omega
    simp [upd, ndRow, h1, updp]
  · simp only [upd, e, if_false, ndRow]
    by_cases e0 : i = 0
    · simp [e0]
    · by_cases e1 : i < 33
      · simp [e0, e1]
      · have : ¬ (i - 33 = k) := by omega
        simp [e0, e1, updp, this]

theorem KSt.of_heap {w w' : World} {sb : Nat} {p : Nat → Int} {root own : Option Nat} (h : KSt w sb p root own) (e : w'.heap = w.heap) : KSt w' sb p root own :=
  ⟨h.row.of_block (by rw [e]), h.hnone, fun r hr => by obtain ⟨o, ho, hR, hl⟩ := h.hsome r hr; exact ⟨o, ho, hR.of_block (by rw [e]), hl⟩⟩

theorem own_old' {w : World} {sb r o : Nat} {p : Nat → Int} (h : KSt w sb p (some r) (some o)) :
    Calls Yba.prog 12 #[.pointer (some ⟨sb, 0, none⟩), .pointer (some ⟨sb, 0, none⟩)] w fun e w' => e = .returned (.pointer (some ⟨r, 0, none⟩)) ∧ (KSt w' sb p (some r) (some o) ∧ Below sb w w') :=
  (own_old h).mono fun e w' ⟨he, k, hk⟩ => ⟨he, hk ▸ h.of_heap rfl, hk ▸ below_drewN' sb w k⟩

/-- What the walk of put needs behind own. -/
theorem KSt.facts {w : World} {sb r o : Nat} {p : Nat → Int} (h : KSt w sb p (some r) (some o)) (k : Nat) (hk : k < 32) :
    w.cell? ⟨sb, 1, none⟩ = some (.int .i64 0) ∧ w.cell? ⟨r, 33 + k, none⟩ = some (.int .i32 (p k)) ∧ w.frozen? ⟨r, 33 + k, none⟩ = false := by
  have c1 := h.row.cell (j := 1) (by omega)
  simp [ksRow] at c1
  obtain ⟨o', ho, hR, hsr⟩ := h.hsome r rfl
  have hck := hR.cell (j := 33 + k) (by omega)
  have e1 : ndRow o' p (33 + k) = .int .i32 (p k) := by
    have h1 : ¬ (33 + k < 33) := by omega
    simp [ndRow, h1]
  rw [e1] at hck
  exact ⟨c1, hck, hR.frozen _⟩

/-- The state: nothing yet, or a leaf. -/
def KS (w : World) (sb : Nat) (p : Nat → Int) : Prop := (KSt w sb p none none) ∨ ∃ r o, KSt w sb p (some r) (some o)

theorem kput_any {w : World} {sb : Nat} {p : Nat → Int} (h : KS w sb p) (k i : Nat) (hk : k < 4) (hi : i ≤ 1024) (hp : ∀ j, 0 ≤ p j ∧ p j ≤ 1025) :
    Calls Yba.prog 8 #[.pointer (some ⟨sb, 0, none⟩), .int .i64 k, .int .i64 i] w fun e w' => (∃ a b, e = .returned (.tuple #[.int .i64 a, .bool b])) ∧
      (KS w' sb (updp p k (i + 1)) ∧ Below sb w w') := by
  have hpk := hp k
  rcases h with h | ⟨r, o, h⟩
  · have hlt := h.row.lt
    have c2 := h.row.cell (j := 2) (by omega)
    have f2 := h.row.frozen 2
    simp [ksRow] at c2
    have hr2 : RowAt ((w.setCell ⟨sb, 2, none⟩ (.pointer (some ⟨w.heap.size, 0, none⟩))).alloc (.cells #[.int .u8 0] 79)) sb 47 3 (ksRow none (some w.heap.size)) := by
      refine ((h.row.set 2 _ (by omega)).alloc _).congr (fun i hi => ?_)
      have h : i = 0 ∨ i = 1 ∨ i = 2 := by omega
      rcases h with rfl | rfl | rfl <;> simp [upd, ksRow]
    have hB2 : Below sb w ((w.setCell ⟨sb, 2, none⟩ (.pointer (some ⟨w.heap.size, 0, none⟩))).alloc (.cells #[.int .u8 0] 79)) :=
      ((Below.refl sb w).setCell (Nat.le_refl _) _).alloc (by simp [World.setCell]; omega) _
    have hp0 : p = fun _ => 0 := funext (h.hnone rfl)
    go_enter Yba.func8, Yba.ntmps8
    go_wp2_with fail
    refine (own_new hr2).mono ?_
    rintro e w1 ⟨rfl, hK, hB⟩
    have hsz : ((w.setCell ⟨sb, 2, none⟩ (.pointer (some ⟨w.heap.size, 0, none⟩))).alloc (.cells #[.int .u8 0] 79)).heap.size = w.heap.size + 1 := by simp [World.setCell]
    rw [← hp0, hsz] at hK
    clear hsz
    have HB : Hid (Below sb w w1) := hB2.trans hB
    obtain ⟨c1, hck, hfk⟩ := hK.facts k (by omega)
    clear hB hB2 hr2 hp0 c2 f2 h hp
    go_wp2_with fail
    refine wp_loop_rounds 1 ?_
    rw [rounds_succ]
    go_wp2_with fail
    go_quiet ((go_at_call 13; exact Calls.quiet_of_same (slot_any k _ hk)))
    go_wp2_with fail
    go_ret2
    exact ⟨⟨_, _, rfl⟩, .inr ⟨_, _, ((hK.put k (by omega) _).of_heap rfl)⟩, ((HB.out.trans (below_drewN' sb w1 nq)).setCell (by simp; omega) _)⟩
  · have c2 := h.row.cell (j := 2) (by omega)
    simp [ksRow] at c2
    go_enter Yba.func8, Yba.ntmps8
    go_wp2_with fail
    refine (own_old' h).mono ?_
    rintro e w1 ⟨rfl, hK, hB⟩
    have HB : Hid (Below sb w w1) := hB
    obtain ⟨c1, hck, hfk⟩ := hK.facts k (by omega)
    clear hB c2 h hp
    go_wp2_with fail
    refine wp_loop_rounds 1 ?_
    rw [rounds_succ]
    go_wp2_with fail
    go_quiet ((go_at_call 13; exact Calls.quiet_of_same (slot_any k _ hk)))
    go_wp2_with fail
    go_ret2
    exact ⟨⟨_, _, rfl⟩, .inr ⟨_, _, ((hK.put k (by omega) _).of_heap rfl)⟩, ((HB.out.trans (below_drewN' sb w1 nq)).setCell (by obtain ⟨_, _, _, hl⟩ := hK.hsome r rfl; simp; omega) _)⟩

/-- The place that 'at' answers. -/
def atV (root : Option Nat) (p : Nat → Int) (k : Nat) : Int := if root = none then 0 else p k - 1

/-- Two pointers as the state's value holds them. -/
def pt (r : Option Nat) : Value := .pointer (r.map fun r => ⟨r, 0, none⟩)

theorem at_any {w : World} {sb : Nat} {p : Nat → Int} {root own : Option Nat} (h : KSt w sb p root own) (k : Nat) (hk : k < 4) (hp : ∀ j, 0 ≤ p j ∧ p j ≤ 1025) :
    Calls Yba.prog 15 #[.agg #[pt root, .int .i64 0, pt own], .int .i64 k] w fun e w' => e = .returned (.tuple #[.int .i64 (atV root p k), .bool (p k != 0)]) ∧ Below w.heap.size w w' := by
  have hpk := hp k
  cases root with
  | none =>
    have h0 : p k = 0 := h.hnone rfl k
    have e1 : atV none p k = 0 := rfl
    have e2 : (p k != 0) = false := by simp [h0]
    rw [e1, e2]
    simp only [pt, Option.map_none]
    clear e1 e2 h0 hpk hp
    go_enter Yba.func15, Yba.ntmps15
    go_wp2_with fail
    refine wp_loop_rounds 1 ?_
    rw [rounds_succ]
    go_wp2_with fail
    go_ret2
    exact ⟨rfl, (Below.refl _ _).alloc (Nat.le_refl _) _⟩
  | some r =>
    obtain ⟨o, rfl, hR, hsr⟩ := h.hsome r rfl
    have e1 : atV (some r) p k = p k - 1 := rfl
    rw [e1]
    simp only [pt, Option.map_some]
    clear e1
    obtain ⟨_, hck, _⟩ := h.facts k (by omega)
    have hrl := hR.lt
    have hcq : ∀ x n, ((w.alloc x).drewN n).cell? ⟨r, 33 + k, none⟩ = some (.int .i32 (p k)) := fun x n => (World.cell?_alloc_past (w := w) x r (33 + k) hrl).trans hck
    go_enter Yba.func15, Yba.ntmps15
    go_wp2_with fail
    refine wp_loop_rounds 1 ?_
    rw [rounds_succ]
    go_wp2_with fail
    go_quiet ((go_at_call 13; exact Calls.quiet_of_same (slot_any k _ hk)))
    go_wp2_with fail
    go_ret2
    exact ⟨rfl, ((Below.refl _ _).alloc (Nat.le_refl _) _).trans (below_drewN' _ _ _)⟩

end Go.Proofs.Ybulkcrss
