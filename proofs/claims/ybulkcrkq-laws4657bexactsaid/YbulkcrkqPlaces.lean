/- places: the walk. -/
import Derived.Test.YbulkcrkqVisit
namespace Go.Proofs.Ybulkcrkq
open Go.ChangeShapes Go.WideShapes Go.ChangeAt Go.RowKit
set_option maxHeartbeats 1000000
set_option maxRecDepth 20000
set_option linter.unusedVariables false
set_option linter.unusedSimpArgs false

theorem places_out (ptr hv yv : Value) (ki ai bi f g : Int) (h : bi ≤ f ∨ g ≤ ai) (w : World) :
    Calls Yba.prog 37 #[ptr, .int .i64 ki, .int .i64 ai, .int .i64 bi, .int .i64 f, .int .i64 g, hv, yv] w fun e w' => e = .returned (.bool true) ∧ w = w' := by
  by_cases h1 : bi ≤ f
  · clear h
    go_enter Yba.func37, Yba.ntmps37
    go_wp2_with fail
    go_ret
    exact ⟨rfl, rfl⟩
  · have h2 : g ≤ ai := by omega
    have h3 : f < bi := by omega
    clear h h1
    go_enter Yba.func37, Yba.ntmps37
    go_wp2_with fail
    go_ret
    exact ⟨rfl, rfl⟩

theorem places_no (L o N n2 k B : Nat) (q x y : Int) (older : Bool) (hh : hold older q x y = false) (yv : Value) (ai bi f g : Int) (w : World) (hk : k < n2) (hn : n2 ≤ 10000)
    (h0 : w.cell? ⟨L, o, none⟩ = some (.slice (some ⟨N, 0, none⟩) n2 n2)) (h1 : w.cell? ⟨N, k * 2, none⟩ = some (.int .u64 x)) (h2 : w.cell? ⟨N, k * 2 + 1, none⟩ = some (.int .u64 y)) (h3 : w.cell? ⟨B, 0, none⟩ = some (.int .u64 q)) (g1 : f < bi) (g2 : ai < g) :
    Calls Yba.prog 37 #[.pointer (some ⟨L, o, none⟩), .int .i64 k, .int .i64 ai, .int .i64 bi, .int .i64 f, .int .i64 g, holdsV older B, yv] w fun e w' => e = .returned (.bool true) ∧ Turned w w' (fun _ => False) := by
  have p5 := holds35 B q x y w h3
  have p6 := holds36 B q x y w h3
  cases older
  · have hd : decide (q < y) = false := hh
    rw [hd] at p5
    clear hh hd p6
    simp only [holdsV]
    go_enter Yba.func37, Yba.ntmps37
    go_wp2_with (go_at_call 35; refine p5.mono ?_; rintro e w' ⟨rfl, rfl⟩)
    go_ret
    exact ⟨rfl, (Turned.refl _ _).alloc _⟩
  · have hd : decide (x < q) = false := hh
    rw [hd] at p6
    clear hh hd p5
    simp only [holdsV]
    go_enter Yba.func37, Yba.ntmps37
    go_wp2_with (go_at_call 36; refine p6.mono ?_; rintro e w' ⟨rfl, rfl⟩)
    go_ret
    exact ⟨rfl, (Turned.refl _ _).alloc _⟩
theorem places_leaf (L o N n2 k B bs i : Nat) (q x y : Int) (older : Bool) (hh : hold older q x y = true) (c1 c2 : Value) (f g : Int) (w : World) (hk : k < n2) (hn : n2 ≤ 10000) (hbs : bs + i ≤ 10000)
    (h0 : w.cell? ⟨L, o, none⟩ = some (.slice (some ⟨N, 0, none⟩) n2 n2)) (hb : w.cell? ⟨L, o + 2, none⟩ = some (.int .i64 (bs : Nat))) (h1 : w.cell? ⟨N, k * 2, none⟩ = some (.int .u64 x)) (h2 : w.cell? ⟨N, k * 2 + 1, none⟩ = some (.int .u64 y)) (h3 : w.cell? ⟨B, 0, none⟩ = some (.int .u64 q)) (g1 : f < (bs : Int) + i + 1) (g2 : (bs : Int) + i < g)
    (b : Bool) (J : World → Prop) (hy : Calls Yba.prog 27 #[.int .i64 (i : Nat), c1, c2] (w.alloc (.cells #[.int .u64 x, .int .u64 y] 128)) fun e w' => e = .returned (.bool b) ∧ J w') :
    Calls Yba.prog 37 #[.pointer (some ⟨L, o, none⟩), .int .i64 k, .int .i64 ((bs : Int) + i), .int .i64 ((bs : Int) + i + 1), .int .i64 f, .int .i64 g, holdsV older B, .func (.func 27) #[] #[c1, c2]] w fun e w' => e = .returned (.bool b) ∧ J w' := by
  have p5 := holds35 B q x y w h3
  have p6 := holds36 B q x y w h3
  have hl := World.block_lt_of_cell? w _ hb
  simp only at hl
  have hi : (bs : Int) + i - bs = i := by omega
  cases older
  · have hd : decide (q < y) = true := hh
    rw [hd] at p5
    clear hh hd p6
    simp only [holdsV]
    go_enter Yba.func37, Yba.ntmps37
    go_wp2_with first | (go_at_call 35; refine p5.mono ?_; rintro e w' ⟨rfl, rfl⟩) | (go_at_call 27; refine hy.mono ?_; rintro e w' ⟨rfl, hJ⟩)
    go_ret
    exact ⟨rfl, hJ⟩
  · have hd : decide (x < q) = true := hh
    rw [hd] at p6
    clear hh hd p5
    simp only [holdsV]
    go_enter Yba.func37, Yba.ntmps37
    go_wp2_with first | (go_at_call 36; refine p6.mono ?_; rintro e w' ⟨rfl, rfl⟩) | (go_at_call 27; refine hy.mono ?_; rintro e w' ⟨rfl, hJ⟩)
    go_ret
    exact ⟨rfl, hJ⟩
theorem places_two (L o N n2 k B a m b' : Nat) (q x y : Int) (older : Bool) (hh : hold older q x y = true) (yv : Value) (f g : Int) (w : World) (hk : k < n2) (hn : n2 ≤ 10000) (hm : a + b' = 2 * m) (hb1 : b' ≤ 10000) (hab : a + 2 ≤ b')
    (h0 : w.cell? ⟨L, o, none⟩ = some (.slice (some ⟨N, 0, none⟩) n2 n2)) (h1 : w.cell? ⟨N, k * 2, none⟩ = some (.int .u64 x)) (h2 : w.cell? ⟨N, k * 2 + 1, none⟩ = some (.int .u64 y)) (h3 : w.cell? ⟨B, 0, none⟩ = some (.int .u64 q)) (g1 : f < (b' : Int)) (g2 : (a : Int) < g)
    (r1 r2 : Bool) (J1 J2 : World → Prop) (hc1 : Calls Yba.prog 37 #[.pointer (some ⟨L, o, none⟩), .int .i64 (2 * k), .int .i64 a, .int .i64 m, .int .i64 f, .int .i64 g, holdsV older B, yv] (w.alloc (.cells #[.int .u64 x, .int .u64 y] 128)) fun e w' => e = .returned (.bool r1) ∧ J1 w')
    (hc2 : r1 = true → ∀ w', J1 w' → Calls Yba.prog 37 #[.pointer (some ⟨L, o, none⟩), .int .i64 (2 * k + 1), .int .i64 m, .int .i64 b', .int .i64 f, .int .i64 g, holdsV older B, yv] w' fun e w' => e = .returned (.bool r2) ∧ J2 w')
    (hc3 : r1 = false → r2 = false ∧ ∀ w', J1 w' → J2 w') :
    Calls Yba.prog 37 #[.pointer (some ⟨L, o, none⟩), .int .i64 k, .int .i64 a, .int .i64 b', .int .i64 f, .int .i64 g, holdsV older B, yv] w fun e w' => e = .returned (.bool r2) ∧ J2 w' := by
  have p5 := holds35 B q x y w h3
  have p6 := holds36 B q x y w h3
  have e1 : ((a : Int) + b') / 2 = m := by omega
  cases older
  · have hd : decide (q < y) = true := hh
    rw [hd] at p5
    clear hh hd p6
    cases r1 with
    | true =>
      replace hc2 := hc2 rfl
      clear hc3
      simp only [holdsV, if_true, Bool.false_eq_true, if_false] at hc1 hc2 ⊢
      go_enter Yba.func37, Yba.ntmps37
      go_wp2_with first | (go_at_call 35; refine p5.mono ?_; rintro e w' ⟨rfl, rfl⟩) | (go_at_call 37; refine (hc2 _ hJ1).mono ?_; rintro e w2 ⟨rfl, hJ2⟩) | (go_at_call 37; refine hc1.mono ?_; rintro e w1 ⟨rfl, hJ1⟩)
      go_ret
      exact ⟨rfl, hJ2⟩
    | false =>
      obtain ⟨rfl, hJJ⟩ := hc3 rfl
      clear hc2 hc3
      simp only [holdsV, if_true, Bool.false_eq_true, if_false] at hc1 ⊢
      go_enter Yba.func37, Yba.ntmps37
      go_wp2_with first | (go_at_call 35; refine p5.mono ?_; rintro e w' ⟨rfl, rfl⟩) | (go_at_call 37; refine hc1.mono ?_; rintro e w1 ⟨rfl, hJ1⟩)
      go_ret
      exact ⟨rfl, hJJ _ hJ1⟩
  · have hd : decide (x < q) = true := hh
    rw [hd] at p6
    clear hh hd p5
    cases r1 with
    | true =>
      replace hc2 := hc2 rfl
      clear hc3
      simp only [holdsV, if_true, Bool.false_eq_true, if_false] at hc1 hc2 ⊢
      go_enter Yba.func37, Yba.ntmps37
      go_wp2_with first | (go_at_call 36; refine p6.mono ?_; rintro e w' ⟨rfl, rfl⟩) | (go_at_call 37; refine (hc2 _ hJ1).mono ?_; rintro e w2 ⟨rfl, hJ2⟩) | (go_at_call 37; refine hc1.mono ?_; rintro e w1 ⟨rfl, hJ1⟩)
      go_ret
      exact ⟨rfl, hJ2⟩
    | false =>
      obtain ⟨rfl, hJJ⟩ := hc3 rfl
      clear hc2 hc3
      simp only [holdsV, if_true, Bool.false_eq_true, if_false] at hc1 ⊢
      go_enter Yba.func37, Yba.ntmps37
      go_wp2_with first | (go_at_call 36; refine p6.mono ?_; rintro e w' ⟨rfl, rfl⟩) | (go_at_call 37; refine hc1.mono ?_; rintro e w1 ⟨rfl, hJ1⟩)
      go_ret
      exact ⟨rfl, hJJ _ hJ1⟩

theorem node_lt {e k a d : Nat} (hk : k * 2 ^ e = 2 ^ d + a) (hle : a + 2 ^ e ≤ 2 ^ d) : k < 2 * 2 ^ d := by
  have hp : 0 < 2 ^ e := Nat.pos_of_ne_zero (by simp)
  have : k * 1 ≤ k * 2 ^ e := Nat.mul_le_mul_left k (by omega)
  omega

/-- Where the node holds no id of the age, none of its places is a candidate. -/
theorem cand_none {n d bs : Nat} {ag lo hi : Nat → Int} {q : Int} {older : Bool} (hT : TreeOk n d bs ag lo hi) {e k a : Nat} (he : e ≤ d) (hk : k * 2 ^ e = 2 ^ d + a) (hh : hold older q (lo k) (hi k) = false) :
    cand n bs (fun i => hold older q (leafLo (ag i)) (leafHi (ag i))) a (2 ^ e) = [] := by
  refine cand_nil (fun i h1 h2 h3 => ?_)
  have hov := hT.over i h1 e he
  have hx := over_of hk h2 h3
  rw [← Nat.add_assoc] at hx
  rw [hx] at hov
  show hold older q (leafLo (ag i)) (leafHi (ag i)) = false
  cases older
  · simp [hold] at hh ⊢
    omega
  · simp [hold] at hh ⊢
    omega

theorem places_any (L o N d bs n B : Nat) (q : Int) (older : Bool) (lo hi : Nat → Int) (ag : Nat → Int) (c1 c2 : Value) (go : List Nat → Bool) (J : List Nat → World → Prop)
    (hT : TreeOk n d bs ag lo hi)
    (hY : PlaceYield L o N d bs n B q older lo hi (fun i => hold older q (leafLo (ag i)) (leafHi (ag i))) c1 c2 go J) :
    ∀ (e k a : Nat) (ki ai bi : Int), ki = k → ai = a → bi = (a + 2 ^ e : Nat) → e ≤ d → k * 2 ^ e = 2 ^ d + a → a + 2 ^ e ≤ 2 ^ d → ∀ l w, J l w → (∀ i, i ∈ cand n bs (fun i => hold older q (leafLo (ag i)) (leafHi (ag i))) a (2 ^ e) → i ∉ l) →
    Calls Yba.prog 37 #[.pointer (some ⟨L, o, none⟩), .int .i64 ki, .int .i64 ai, .int .i64 bi, .int .i64 (bs : Nat), .int .i64 ((bs : Int) + n), holdsV older B, .func (.func 27) #[] #[c1, c2]] w fun x w' =>
      x = .returned (.bool (visit go l (cand n bs (fun i => hold older q (leafLo (ag i)) (leafHi (ag i))) a (2 ^ e))).2) ∧ J (visit go l (cand n bs (fun i => hold older q (leafLo (ag i)) (leafHi (ag i))) a (2 ^ e))).1 w' := by
  have hsz : 2 ^ d ≤ 4096 := Nat.pow_le_pow_right (by omega) hT.dep
  have hfit := hT.fit
  intro e
  induction e with
  | zero =>
    rintro k a _ _ _ rfl rfl rfl hed hk hle l w hJ hnew
    have hk2 := node_lt hk hle
    have hrow := hY.row l w hJ
    have r0 := nd_lo hrow hk2
    have r1 := nd_hi hrow hk2
    by_cases hout : ((a + 2 ^ 0 : Nat) : Int) ≤ (bs : Int) ∨ (bs : Int) + n ≤ a
    · rw [cand_nil (fun i h1 h2 h3 => by omega)]
      exact (places_out _ _ _ _ _ _ _ _ hout w).mono (fun x w' h => ⟨h.1, h.2 ▸ hJ⟩)
    cases hh : hold older q (lo k) (hi k) with
    | false =>
      rw [cand_none hT hed hk hh]
      exact (places_no L o N (2 * 2 ^ d) k B q _ _ older hh _ a _ _ _ w hk2 (by omega) (hY.nds l w hJ) r0 r1 (hY.box l w hJ) (by omega) (by omega)).mono (fun x w' h => ⟨h.1, hY.keep l w w' hJ h.2⟩)
    | true =>
      simp only [Nat.pow_zero, Nat.mul_one] at hk hle hout hnew ⊢
      obtain ⟨i, rfl⟩ : ∃ i, a = bs + i := ⟨a - bs, by omega⟩
      have hin : i < n := by omega
      have hlf := hT.leaf i hin
      rw [show 2 ^ d + bs + i = k by omega] at hlf
      have hok : hold older q (leafLo (ag i)) (leafHi (ag i)) = true := by rw [← hlf.1, ← hlf.2]; exact hh
      rw [cand_one (ok := fun i => hold older q (leafLo (ag i)) (leafHi (ag i))) hin hok] at hnew ⊢
      rw [visit_one]
      have hy := hY.call l i (w.alloc (.cells #[.int .u64 (lo k), .int .u64 (hi k)] 128)) (hY.keep l w _ hJ ((Turned.refl _ _).alloc _)) hin hok (hnew i (by simp))
      have := places_leaf L o N (2 * 2 ^ d) k B bs i q _ _ older hh c1 c2 (bs : Nat) ((bs : Int) + n) w hk2 (by omega) (by omega) (hY.nds l w hJ) (hY.base l w hJ) r0 r1 (hY.box l w hJ) (by omega) (by omega) _ _ hy
      rw [show ((bs + i + 1 : Nat) : Int) = (bs : Int) + i + 1 by omega, show ((bs + i : Nat) : Int) = (bs : Int) + i by omega]
      exact this
  | succ e ih =>
    rintro k a _ _ _ rfl rfl rfl hed hk hle l w hJ hnew
    have hk2 := node_lt hk hle
    have hrow := hY.row l w hJ
    have r0 := nd_lo hrow hk2
    have r1 := nd_hi hrow hk2
    by_cases hout : ((a + 2 ^ (e + 1) : Nat) : Int) ≤ (bs : Int) ∨ (bs : Int) + n ≤ a
    · rw [cand_nil (fun i h1 h2 h3 => by omega)]
      exact (places_out _ _ _ _ _ _ _ _ hout w).mono (fun x w' h => ⟨h.1, h.2 ▸ hJ⟩)
    cases hh : hold older q (lo k) (hi k) with
    | false =>
      rw [cand_none hT hed hk hh]
      exact (places_no L o N (2 * 2 ^ d) k B q _ _ older hh _ a _ _ _ w hk2 (by omega) (hY.nds l w hJ) r0 r1 (hY.box l w hJ) (by omega) (by omega)).mono (fun x w' h => ⟨h.1, hY.keep l w w' hJ h.2⟩)
    | true =>
      have e2 : 2 ^ (e + 1) = 2 ^ e + 2 ^ e := by rw [Nat.pow_succ]; omega
      have hp0 : 0 < 2 ^ e := Nat.pos_of_ne_zero (by simp)
      have ih1 := ih (2 * k) a (2 * (k : Int)) a ((a + 2 ^ e : Nat) : Int) (by omega) rfl rfl (by omega) (by rw [← hk, Nat.pow_succ, Nat.mul_comm 2 k, Nat.mul_assoc, Nat.mul_comm 2]) (by omega) l
      have ih2 := ih (2 * k + 1) (a + 2 ^ e) (2 * (k : Int) + 1) ((a + 2 ^ e : Nat) : Int) ((a + 2 ^ (e + 1) : Nat) : Int) (by omega) rfl (by omega) (by omega) (by rw [Nat.add_mul, Nat.one_mul, Nat.mul_comm 2 k, Nat.mul_assoc, ← Nat.pow_succ', hk]; omega) (by omega)
      rw [show cand n bs (fun i => hold older q (leafLo (ag i)) (leafHi (ag i))) a (2 ^ (e + 1)) = cand n bs (fun i => hold older q (leafLo (ag i)) (leafHi (ag i))) a (2 ^ e) ++ cand n bs (fun i => hold older q (leafLo (ag i)) (leafHi (ag i))) (a + 2 ^ e) (2 ^ e) by rw [e2, cand_split]] at hnew ⊢
      have hc1 := ih1 (w.alloc (.cells #[.int .u64 (lo k), .int .u64 (hi k)] 128)) (hY.keep l w _ hJ ((Turned.refl _ _).alloc _)) (fun i hi => hnew i (List.mem_append_left _ hi))
      refine places_two L o N (2 * 2 ^ d) k B a (a + 2 ^ e) (a + 2 ^ (e + 1)) q _ _ older hh _ (bs : Nat) ((bs : Int) + n) w hk2 (by omega) (by omega) (by omega) (by omega) (hY.nds l w hJ) r0 r1 (hY.box l w hJ) (by omega) (by omega) _ _ _ _ hc1 ?_ ?_
      · intro hr w1 hJ1
        rw [visit_on go _ _ _ hr]
        refine ih2 _ w1 hJ1 (fun i hi h => ?_)
        rcases visit_mem go _ _ _ h with h | h
        · exact hnew i (List.mem_append_right _ hi) h
        · exact cand_apart hi h
      · intro hr
        rw [visit_off go _ _ _ hr]
        exact ⟨hr, fun _ h => h⟩

end Go.Proofs.Ybulkcrkq
