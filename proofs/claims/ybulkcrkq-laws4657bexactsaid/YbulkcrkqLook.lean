/- The look at one list of holders by age. -/
import Derived.Test.YbulkcrkqInner
namespace Go.Proofs.Ybulkcrkq
open Go.ChangeShapes Go.WideShapes Go.ChangeAt Go.RowKit
set_option maxHeartbeats 1000000
set_option maxRecDepth 20000
set_option linter.unusedVariables false

theorem visit_map (go : List Nat → Bool) (l0 : List Nat) (cs : Nat → Nat) : ∀ (c l : List Nat), visit go (l0 ++ l.map cs) (c.map cs) = (l0 ++ (visit (fun l => go (l0 ++ l.map cs)) l c).1.map cs, (visit (fun l => go (l0 ++ l.map cs)) l c).2)
  | [], l => rfl
  | x :: c, l => by
    have e : (l0 ++ l.map cs) ++ [cs x] = l0 ++ (l ++ [x]).map cs := by simp
    rw [List.map_cons]
    cases h : go (l0 ++ (l ++ [x]).map cs) with
    | true =>
      rw [visit_yes (by rw [e]; exact h), visit_yes (go := fun l => go (l0 ++ l.map cs)) h, e]
      exact visit_map go l0 cs c (l ++ [x])
    | false =>
      rw [visit_no (by rw [e]; exact h), visit_no (go := fun l => go (l0 ++ l.map cs)) h, e]

theorem hold_unwounded {older : Bool} {q wd id : Int} (hq : 0 ≤ q ∧ q ≤ 100) (h : hold older q (leafLo (ageOf wd id)) (leafHi (ageOf wd id)) = true) : wd = 0 := by
  by_cases hw : wd = 0
  · exact hw
  · exfalso
    have e : ageOf wd id = 0 := by simp [ageOf, hw]
    rw [e] at h
    cases older
    · have h' : q < 0 := of_decide_eq_true h
      omega
    · have h' : (18446744073709551615 : Int) < q := of_decide_eq_true h
      omega

/-- The state of the tree of the list at ⟨L, p⟩, whose cells are g: none yet, or laid. -/
def TreeIs (w : World) (Y : Nat → Prop) (p n : Nat) (ag : Nat → Int) (g : Nat → Value) : Prop :=
  ∃ N d bs lo hi, g (p + 1) = .slice (some ⟨N, 0, none⟩) (2 * 2 ^ d) (2 * 2 ^ d) ∧ g (p + 2) = .int .i64 ((2 ^ d : Nat) : Int) ∧ g (p + 3) = .int .i64 ((bs : Nat) : Int) ∧ RowAt w N 128 (2 * 2 ^ d * 2) (nd lo hi) ∧ TreeOk n d bs ag lo hi ∧ ¬ Y N

/-- The places in c that fit the look are yielded. -/
def Looked (go : List Nat → Bool) (J : List Nat → World → Prop) (l0 : List Nat) (c : List Nat) (e : Ending) (w' : World) : Prop := e = .returned (.bool (visit go l0 c).2) ∧ J (visit go l0 c).1 w'

theorem look_any {F : Nat} {caps : Array Value} {Y M : Nat → Prop} {go : List Nat → Bool} {Q : Nat → Prop} {J : List Nat → World → Prop} (hF : F = 15 ∨ F = 17) (hY : YieldOk F caps Y M go Q J)
    (L p tb n cap C1 C2 B N d bs : Nat) (q : Int) (older : Bool) (lo hi : Nat → Int) (cs : Nat → Nat) (wd id : Nat → Int) (hn : n ≤ 400) (hq : 0 ≤ q ∧ q ≤ 100) (hid : ∀ i, 0 ≤ id i ∧ id i ≤ 100) (w : World)
    (hL : ListAt w L p tb n cap cs wd id) (h1 : w.cell? ⟨C1, 0, none⟩ = some (.pointer (some ⟨L, p, none⟩))) (h2 : w.cell? ⟨C2, 0, none⟩ = some (.func (.func F) #[] caps))
    (t0 : w.cell? ⟨L, p + 1, none⟩ = some (.slice (some ⟨N, 0, none⟩) (2 * 2 ^ d) (2 * 2 ^ d))) (t2 : w.cell? ⟨L, p + 1 + 2, none⟩ = some (.int .i64 (bs : Nat))) (hN : RowAt w N 128 (2 * 2 ^ d * 2) (nd lo hi)) (hT : TreeOk n d bs (fun i => ageOf (wd i) (id i)) lo hi) (hB : w.cell? ⟨B, 0, none⟩ = some (.int .u64 q))
    (l : List Nat) (hJ : J l w) (hQ : ∀ i, i < n → wd i = 0 → hold older q (leafLo (ageOf (wd i) (id i))) (leafHi (ageOf (wd i) (id i))) = true → Q (cs i)) (hnew : ∀ i, i < n → cs i ∉ l) (hinj : ∀ i j, i < n → j < n → cs i = cs j → i = j)
    (y1 : ¬ Y L) (y2 : ¬ Y tb) (y3 : ∀ i, i < n → ¬ Y (cs i)) (y4 : ¬ Y C1) (y5 : ¬ Y C2) (y6 : ¬ Y B) (y7 : ¬ Y N) :
    Calls Yba.prog 37 #[.pointer (some ⟨L, p + 1, none⟩), .int .i64 1, .int .i64 0, .int .i64 ((2 ^ d : Nat) : Int), .int .i64 (bs : Nat), .int .i64 ((bs : Int) + n), holdsV older B, .func (.func 27) #[] #[.pointer (some ⟨C1, 0, none⟩), .pointer (some ⟨C2, 0, none⟩)]] w fun e w' =>
      Looked go J l ((cand n bs (fun i => hold older q (leafLo (ageOf (wd i) (id i))) (leafHi (ageOf (wd i) (id i)))) 0 (2 ^ d)).map cs) e w' ∧ Turned w w' Y := by
  have hP : PlaceYield L (p + 1) N d bs n B q older lo hi (fun i => hold older q (leafLo (ageOf (wd i) (id i))) (leafHi (ageOf (wd i) (id i)))) (.pointer (some ⟨C1, 0, none⟩)) (.pointer (some ⟨C2, 0, none⟩)) (fun l' => go (l ++ l'.map cs)) (fun l' w' => J (l ++ l'.map cs) w' ∧ (∀ i, i ∈ l' → i < n) ∧ Turned w w' Y) := by
    refine ⟨fun l' w' h => h.2.2.cell t0 y1, fun l' w' h => h.2.2.cell t2 y1, fun l' w' h => h.2.2.row hN y7, fun l' w' h => h.2.2.cell hB y6, fun l' w1 w2 h ht => ⟨hY.keep _ _ _ _ h.1 ht (fun _ _ h => h), h.2.1, h.2.2.trans (ht.mono (fun _ _ h => h.elim))⟩, ?_⟩
    rintro l' i w' ⟨k1, k2, k3⟩ hi hok hl'
    have hw0 := hold_unwounded hq hok
    have := inner_any hF hY L p tb n cap C1 C2 i cs wd id hi hn hw0 w' (hL.turned k3 y1 y2 y3) (k3.cell h1 y4) (k3.cell h2 y5) (l ++ l'.map cs) k1 (hQ i hi hw0 hok) (by
      intro hm
      rcases List.mem_append.1 hm with hm | hm
      · exact hnew i hi hm
      · obtain ⟨j, hj, e⟩ := List.mem_map.1 hm
        exact hl' (hinj j i (k2 j hj) hi e ▸ hj))
    refine this.mono ?_
    rintro e w'' ⟨rfl, j1, j2⟩
    have e1 : l ++ l'.map cs ++ [cs i] = l ++ (l' ++ [i]).map cs := by simp
    rw [e1] at j1 ⊢
    refine ⟨rfl, j1, ?_, k3.trans (j2.mono (fun _ _ h => .inl h))⟩
    intro j hj
    simp at hj
    rcases hj with hj | rfl
    · exact k2 j hj
    · exact hi
  have hA := places_any L (p + 1) N d bs n B q older lo hi (fun i => ageOf (wd i) (id i)) _ _ _ _ hT hP d 1 0 1 0 ((2 ^ d : Nat) : Int) rfl rfl (by simp) (Nat.le_refl _) (by omega) (by omega) [] w ⟨by simpa using hJ, by simp, Turned.refl _ _⟩ (by simp)
  refine hA.mono ?_
  rintro e w' ⟨rfl, k1, k2, k3⟩
  have hv := visit_map go l cs (cand n bs (fun i => hold older q (leafLo (ageOf (wd i) (id i))) (leafHi (ageOf (wd i) (id i)))) 0 (2 ^ d)) []
  rw [List.map_nil, List.append_nil] at hv
  refine ⟨⟨by rw [hv], by rw [hv]; exact k1⟩, k3⟩
end Go.Proofs.Ybulkcrkq
