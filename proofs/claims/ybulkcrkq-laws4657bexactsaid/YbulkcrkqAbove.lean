/- setAbove: each node over the window bounds its two children. -/
import Derived.Test.YbulkcrkqLeaves
namespace Go.Proofs.Ybulkcrkq
open Go.ChangeShapes Go.WideShapes Go.ChangeAt Go.RowKit
set_option maxHeartbeats 1000000
set_option maxRecDepth 20000
set_option linter.unusedVariables false

/-- The nodes from f up to x set anew from their children. -/
def lvl (g : Int → Int → Int) (f x : Nat) (lo : Nat → Int) (k : Nat) : Int := if f ≤ k ∧ k < x then g (lo (2 * k)) (lo (2 * k + 1)) else lo k

theorem lvl_start (g : Int → Int → Int) (f : Nat) (lo : Nat → Int) : lvl g f f lo = lo := by
  funext k
  unfold lvl
  rw [if_neg (by omega)]

theorem lvl_child (g : Int → Int → Int) (f x : Nat) (lo : Nat → Int) (hf : 1 ≤ f) (hx : f ≤ x) : lvl g f x lo (2 * x) = lo (2 * x) ∧ lvl g f x lo (2 * x + 1) = lo (2 * x + 1) := by
  unfold lvl
  constructor <;> rw [if_neg (by omega)]

theorem lvl_step (g : Int → Int → Int) (f x : Nat) (lo : Nat → Int) (hx : f ≤ x) : updI (lvl g f x lo) x (g (lo (2 * x)) (lo (2 * x + 1))) = lvl g f (x + 1) lo := by
  funext k
  unfold updI lvl
  by_cases e : k = x
  · subst e
    rw [if_pos rfl, if_pos (by omega)]
  · rw [if_neg e]
    by_cases h : f ≤ k ∧ k < x
    · rw [if_pos h, if_pos (by omega)]
    · rw [if_neg h, if_neg (by omega)]

/-- Of the leaves from F to G, each ancestor up to t levels up bounds it; the leaves are as they were. -/
structure Bounds (sz F G t : Nat) (lo0 hi0 lo hi : Nat → Int) : Prop where
  leaf : ∀ k, sz ≤ k → lo k = lo0 k ∧ hi k = hi0 k
  over : ∀ j, F ≤ j → j ≤ G → ∀ s, s < t → lo (j / 2 ^ s) ≤ lo0 j ∧ hi0 j ≤ hi (j / 2 ^ s)

theorem bounds_start (sz F G : Nat) (lo hi : Nat → Int) : Bounds sz F G 1 lo hi lo hi :=
  ⟨fun _ _ => ⟨rfl, rfl⟩, fun j _ _ s hs => by
    obtain rfl : s = 0 := by omega
    simp⟩

theorem div_lt_of (d s F G : Nat) (hs : s ≤ d) (hF : 2 ^ d ≤ F) (hG : G < 2 * 2 ^ d) : G / 2 ^ (s + 1) < F / 2 ^ s := by
  obtain ⟨c, rfl⟩ : ∃ c, d = s + c := ⟨d - s, by omega⟩
  have hp : 0 < 2 ^ s := Nat.pos_of_ne_zero (by simp)
  have h1 : 2 ^ c ≤ F / 2 ^ s := by
    rw [Nat.le_div_iff_mul_le hp, ← Nat.pow_add, Nat.add_comm]
    exact hF
  have h2 : G / 2 ^ (s + 1) < 2 ^ c := by
    rw [Nat.div_lt_iff_lt_mul (Nat.pos_of_ne_zero (by simp)), ← Nat.pow_add]
    have : 2 ^ (c + (s + 1)) = 2 * 2 ^ (s + c) := by
      rw [show c + (s + 1) = (s + c) + 1 by omega, Nat.pow_succ]
      omega
    omega
  omega

theorem div_mono_pow (G : Nat) {s t : Nat} (h : s ≤ t) : G / 2 ^ t ≤ G / 2 ^ s := by
  obtain ⟨c, rfl⟩ : ∃ c, t = s + c := ⟨t - s, by omega⟩
  rw [Nat.pow_add, ← Nat.div_div_eq_div_mul]
  exact Nat.div_le_self _ _

theorem half_pow (j t : Nat) : j / 2 ^ t / 2 = j / 2 ^ (t + 1) := by rw [Nat.div_div_eq_div_mul, Nat.pow_succ]

theorem Bounds.up {d F G t : Nat} {lo0 hi0 lo hi : Nat → Int} (h : Bounds (2 ^ d) F G t lo0 hi0 lo hi) (ht : 1 ≤ t) (htd : t ≤ d) (hF : 2 ^ d ≤ F) (hG : G < 2 * 2 ^ d) :
    Bounds (2 ^ d) F G (t + 1) lo0 hi0 (lvl min (F / 2 ^ t) (G / 2 ^ t + 1) lo) (lvl max (F / 2 ^ t) (G / 2 ^ t + 1) hi) := by
  have hp : ∀ s, 0 < 2 ^ s := fun s => Nat.pos_of_ne_zero (by simp)
  refine ⟨fun k hk => ?_, fun j hj1 hj2 s hs => ?_⟩
  · have h0 := div_lt_of d 0 (2 ^ d) G (by omega) (Nat.le_refl _) hG
    have h1 := div_mono_pow G ht
    simp at h0 h1
    unfold lvl
    rw [if_neg (by omega), if_neg (by omega)]
    exact h.leaf k hk
  · by_cases e : s = t
    · subst e
      have hb := h.over j hj1 hj2 (s - 1) (by omega)
      have hh : j / 2 ^ (s - 1) / 2 = j / 2 ^ s := by rw [half_pow, show s - 1 + 1 = s by omega]
      have m1 : F / 2 ^ s ≤ j / 2 ^ s := Nat.div_le_div_right hj1
      have m2 : j / 2 ^ s ≤ G / 2 ^ s := Nat.div_le_div_right hj2
      unfold lvl
      rw [if_pos (by omega), if_pos (by omega)]
      have hc : j / 2 ^ (s - 1) = 2 * (j / 2 ^ s) ∨ j / 2 ^ (s - 1) = 2 * (j / 2 ^ s) + 1 := by omega
      rcases hc with hc | hc
      · rw [hc] at hb
        constructor
        · exact Int.le_trans (Int.min_le_left _ _) hb.1
        · exact Int.le_trans hb.2 (Int.le_max_left _ _)
      · rw [hc] at hb
        constructor
        · exact Int.le_trans (Int.min_le_right _ _) hb.1
        · exact Int.le_trans hb.2 (Int.le_max_right _ _)
    · have h0 := div_lt_of d s F G (by omega) hF hG
      have h1 := div_mono_pow G (show s + 1 ≤ t by omega)
      have h2 : F / 2 ^ s ≤ j / 2 ^ s := Nat.div_le_div_right hj1
      unfold lvl
      rw [if_neg (by omega), if_neg (by omega)]
      exact h.over j hj1 hj2 s (by omega)

theorem if_min (a b : Int) : (if b < a then b else a) = min a b := by
  rw [Int.min_def]
  split <;> split <;> omega
theorem if_max (a b : Int) : (if a < b then b else a) = max a b := by
  rw [Int.max_def]
  split <;> split <;> omega

/-- The two boxes into which setAbove loads the children. -/
def Boxed (N n2 x : Nat) (lo hi : Nat → Int) (wr : World) (s9 s10 : Value) (wc : World) : Prop :=
  ∃ b1 b2, s9 = .pointer (some ⟨b1, 0, none⟩) ∧ s10 = .pointer (some ⟨b2, 0, none⟩) ∧ wc.cell? ⟨b1, 0, none⟩ = some (.int .u64 (lo (2 * x))) ∧ wc.cell? ⟨b1, 1, none⟩ = some (.int .u64 (hi (2 * x))) ∧ wc.cell? ⟨b2, 0, none⟩ = some (.int .u64 (lo (2 * x + 1))) ∧ wc.cell? ⟨b2, 1, none⟩ = some (.int .u64 (hi (2 * x + 1))) ∧ RowAt wc N 128 (n2 * 2) (nd lo hi) ∧ Turned wr wc (fun _ => False)

theorem setAbove_any (L o N d sz bs n : Nat) (hsz : sz = 2 ^ d) (hd : d ≤ 12) (hn : 1 ≤ n) (hbs : bs + n ≤ sz) (lo hi : Nat → Int) (w : World) (t0 : w.cell? ⟨L, o, none⟩ = some (.slice (some ⟨N, 0, none⟩) (2 * sz) (2 * sz))) (t1 : w.cell? ⟨L, o + 1, none⟩ = some (.int .i64 sz)) (hN : RowAt w N 128 (2 * sz * 2) (nd lo hi)) (n1 : L ≠ N) :
    Calls Yba.prog 39 #[.pointer (some ⟨L, o, none⟩), .int .i64 bs, .int .i64 ((bs : Int) + n)] w fun e w' => e = .returned (.tuple #[]) ∧
      (∃ lo' hi', RowAt w' N 128 (2 * sz * 2) (nd lo' hi') ∧ Bounds sz (sz + bs) (sz + bs + n - 1) (d + 1) lo hi lo' hi') ∧ Turned w w' (fun b => b = N) := by
  have hsz4 : sz ≤ 4096 := by
    rw [hsz]
    exact Nat.pow_le_pow_right (by omega) hd
  have HSZ : Hid (sz = 2 ^ d) := hsz
  have hdd : ((sz : Int) + (bs + n) - 1) = ((sz + bs + n - 1 : Nat) : Int) := by omega
  clear hsz
  go_enter Yba.func39, Yba.ntmps39
  go_wp2_with fail
  go_quiet (fail)
  go_wp2_with fail
  have hNq : RowAt (w.drewN nq) N 128 (2 * sz * 2) (nd lo hi) := hN
  have hTq : Turned w (w.drewN nq) (fun b => b = N) := ⟨rfl, rfl, rfl, Nat.le_refl _, fun _ _ _ => rfl⟩
  generalize w.drewN nq = wq at hNq hTq ⊢
  go_loopw [6, 7] (fun t6 t7 wr => ∃ t f l lo' hi', t6 = .int .i64 ((f : Nat) : Int) ∧ t7 = .int .i64 ((l : Nat) : Int) ∧ Hid (f = (sz + bs) / 2 ^ t) ∧ Hid (l = (sz + bs + n - 1) / 2 ^ t) ∧ 1 ≤ t ∧ t ≤ d + 1 ∧ RowAt wr N 128 (2 * sz * 2) (nd lo' hi') ∧ Bounds sz (sz + bs) (sz + bs + n - 1) t lo hi lo' hi' ∧ Turned w wr (fun b => b = N)) (fun t6 _ _ => (intOf t6).toNat)
  case atStart => exact ⟨1, (sz + bs) / 2, (sz + bs + n - 1) / 2, lo, hi, by go_num, by go_num, rfl, rfl, Nat.le_refl _, by omega, hNq, bounds_start _ _ _ _ _, hTq⟩
  case round =>
    clear hNq hTq hN
    obtain ⟨t, f, l, lo', hi', rfl, rfl, hf, hl, ht1, ht2, hR, hB, hW⟩ := hrel
    have hF : 2 ^ d ≤ sz + bs := by have := HSZ.out; omega
    have hG : sz + bs + n - 1 < 2 * 2 ^ d := by have := HSZ.out; omega
    by_cases hf0 : 0 < f
    · have htd : t ≤ d := by
        have h1 := hf.out
        have h2 : ¬ t = d + 1 := by
          intro e
          subst e
          have : (sz + bs) / 2 ^ (d + 1) = 0 := Nat.div_eq_of_lt (by rw [Nat.pow_succ]; omega)
          omega
        omega
      have hll : l < sz := by
        have h0 := div_lt_of d 0 (2 ^ d) (sz + bs + n - 1) (by omega) (Nat.le_refl _) hG
        have h1 := div_mono_pow (sz + bs + n - 1) ht1
        have h2 := hl.out
        have h3 := HSZ.out
        simp at h0 h1
        omega
      go_wp2_with fail
      obtain ⟨wo, rfl⟩ : ∃ wo : World, wo = wr := ⟨_, rfl⟩
      go_loopw [8] (fun t8 wr => ∃ x : Nat, t8 = .int .i64 (x : Int) ∧ f ≤ x ∧ x ≤ max (l + 1) f ∧ RowAt wr N 128 (2 * sz * 2) (nd (lvl min f x lo') (lvl max f x hi')) ∧ Turned w wr (fun b => b = N)) (fun t8 _ => l + 1 - (intOf t8).toNat)
      case atStart => exact ⟨f, rfl, Nat.le_refl _, by omega, by rw [lvl_start, lvl_start]; exact hR, hW⟩
      case round =>
        clear hR hW
        obtain ⟨x, rfl, hx1, hx2, hRx, hWx⟩ := hrel
        by_cases hxl : x ≤ l
        · have c0 := nd_lo hRx (k := 2 * x) (by omega)
          have c1 := nd_hi hRx (k := 2 * x) (by omega)
          have c2 := nd_lo hRx (k := 2 * x + 1) (by omega)
          have c3 := nd_hi hRx (k := 2 * x + 1) (by omega)
          have k0 := hWx.cell t0 n1
          have k1 := hWx.cell t1 n1
          have hLl := World.block_lt_of_cell? wr _ k0
          have hNl := hRx.lt
          simp only at hLl
          go_upto_region 7 with fail
          go_cut [9, 10] (fun s9 s10 wc => Boxed N (2 * sz) x (lvl min f x lo') (lvl max f x hi') wr s9 s10 wc)
          case first =>
            go_region
            all_goals go_wp2_with fail
            all_goals go_meet
            all_goals exact ⟨_, _, rfl, rfl, by simp, by simp, by simp, by simp, ((hRx.alloc _).alloc _).drew, (((Turned.refl _ _).alloc _).alloc _).drew⟩
          case rest =>
            obtain ⟨b1, b2, rfl, rfl, d0, d1, d2, d3, hRc, hWc⟩ := hcut
            have hxs : x < 2 * sz := by omega
            have k0' := hWc.cell k0 (fun h => h)
            have e0 := nd_lo hRc hxs
            have e1 := nd_hi hRc hxs
            have eF := hRc.frozen
            clear c0 c1 c2 c3 k0 k1
            go_wp2_with fail
            have h := nd_set hRc hxs (if lvl min f x lo' (2 * x + 1) < lvl min f x lo' (2 * x) then lvl min f x lo' (2 * x + 1) else lvl min f x lo' (2 * x)) (if lvl max f x hi' (2 * x) < lvl max f x hi' (2 * x + 1) then lvl max f x hi' (2 * x + 1) else lvl max f x hi' (2 * x))
            have e2 : updI (lvl min f x lo') x (if lvl min f x lo' (2 * x + 1) < lvl min f x lo' (2 * x) then lvl min f x lo' (2 * x + 1) else lvl min f x lo' (2 * x)) = lvl min f (x + 1) lo' := by
              rw [if_min, (lvl_child min f x lo' hf0 hx1).1, (lvl_child min f x lo' hf0 hx1).2, lvl_step min f x lo' hx1]
            have e3 : updI (lvl max f x hi') x (if lvl max f x hi' (2 * x) < lvl max f x hi' (2 * x + 1) then lvl max f x hi' (2 * x + 1) else lvl max f x hi' (2 * x)) = lvl max f (x + 1) hi' := by
              rw [if_max, (lvl_child max f x hi' hf0 hx1).1, (lvl_child max f x hi' hf0 hx1).2, lvl_step max f x hi' hx1]
            rw [e2, e3] at h
            have hset : Hid (RowAt _ N 128 (2 * sz * 2) (nd (lvl min f (x + 1) lo') (lvl max f (x + 1) hi'))) := h
            clear h e2 e3
            go_region
            go_wp2_with fail
            go_roundw
            case rel => exact ⟨x + 1, by go_num, by omega, by omega, hset.out.drew, (((hWx.trans (hWc.mono (fun _ _ h => h.elim))).setCell ⟨N, _, none⟩ (.inl rfl) _).setCell ⟨N, _, none⟩ (.inl rfl) _).drew⟩
            case measure => simp [intOf]; omega
        · have hxe : x = max (l + 1) f := by omega
          have hfl : f ≤ l := by
            rw [hf.out, hl.out]
            exact Nat.div_le_div_right (by omega)
          have hB' : Bounds sz (sz + bs) (sz + bs + n - 1) (t + 1) lo hi (lvl min f x lo') (lvl max f x hi') := by
            have h3 := HSZ.out
            have hx : x = l + 1 := by omega
            rw [hx, hf.out, hl.out]
            rw [h3] at hB hF hG ⊢
            exact hB.up ht1 htd hF hG
          have HE1 : Hid (f / 2 = (sz + bs) / 2 ^ (t + 1)) := by
            show f / 2 = _
            rw [hf.out, half_pow]
          have HE2 : Hid (l / 2 = (sz + bs + n - 1) / 2 ^ (t + 1)) := by
            show l / 2 = _
            rw [hl.out, half_pow]
          clear hxe
          go_wp2_with fail
          go_roundw
          case rel => exact ⟨t + 1, f / 2, l / 2, _, _, by go_num, by go_num, HE1, HE2, by omega, by omega, hRx, hB', hWx⟩
          case measure => simp [intOf]; omega
    · have hte : t = d + 1 := by
        by_cases h : t ≤ d
        · exfalso
          have h1 := hf.out
          have h2 : 1 ≤ (sz + bs) / 2 ^ t := by
            rw [Nat.le_div_iff_mul_le (Nat.pos_of_ne_zero (by simp)), Nat.one_mul]
            exact Nat.le_trans (Nat.pow_le_pow_right (by omega) h) hF
          omega
        · omega
      rw [hte] at hB
      have HB : Hid (Bounds sz (sz + bs) (sz + bs + n - 1) (d + 1) lo hi lo' hi') := hB
      clear hte hB
      go_wp2_with fail
      go_end0
      exact ⟨rfl, ⟨lo', hi', hR, HB.out⟩, hW⟩
end Go.Proofs.Ybulkcrkq
