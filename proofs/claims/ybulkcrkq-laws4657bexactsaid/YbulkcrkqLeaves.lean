/- The tree of ages: its nodes; setLeaves. -/
import Derived.Test.YbulkcrkqAtom
namespace Go.Proofs.Ybulkcrkq
open Go.ChangeShapes Go.WideShapes Go.ChangeAt Go.RowKit
set_option maxHeartbeats 1000000
set_option maxRecDepth 20000
set_option linter.unusedVariables false

/-- The cells of the nodes. -/
def nd (lo hi : Nat → Int) (j : Nat) : Value := if j % 2 = 0 then .int .u64 (lo (j / 2)) else .int .u64 (hi (j / 2))
/-- f with v at k. -/
def updI (f : Nat → Int) (k : Nat) (v : Int) (j : Nat) : Int := if j = k then v else f j

theorem nd_set {w : World} {N n2 : Nat} {lo hi : Nat → Int} (h : RowAt w N 128 (n2 * 2) (nd lo hi)) {k : Nat} (hk : k < n2) (a b : Int) :
    RowAt ((w.setCell ⟨N, k * 2, none⟩ (.int .u64 a)).setCell ⟨N, k * 2 + 1, none⟩ (.int .u64 b)) N 128 (n2 * 2) (nd (updI lo k a) (updI hi k b)) := by
  refine ((h.set (k * 2) _ (by omega)).set (k * 2 + 1) _ (by omega)).congr (fun j hj => ?_)
  by_cases e1 : j = k * 2 + 1
  · subst e1
    have h1 : (k * 2 + 1) % 2 = 1 := by omega
    have h2 : (k * 2 + 1) / 2 = k := by omega
    simp [upd, nd, updI, h1, h2]
  · by_cases e2 : j = k * 2
    · subst e2
      have h1 : (k * 2) % 2 = 0 := by omega
      have h2 : (k * 2) / 2 = k := by omega
      simp [upd, nd, updI, h1, h2]
    · have h2 : j / 2 ≠ k := by omega
      simp [upd, nd, updI, e1, e2, h2]

theorem nd_lo {w : World} {N n2 : Nat} {lo hi : Nat → Int} (h : RowAt w N 128 (n2 * 2) (nd lo hi)) {k : Nat} (hk : k < n2) : w.cell? ⟨N, k * 2, none⟩ = some (.int .u64 (lo k)) := by
  rw [h.cell (by omega)]
  have h1 : (k * 2) % 2 = 0 := by omega
  have h2 : (k * 2) / 2 = k := by omega
  simp [nd, h1, h2]

theorem nd_hi {w : World} {N n2 : Nat} {lo hi : Nat → Int} (h : RowAt w N 128 (n2 * 2) (nd lo hi)) {k : Nat} (hk : k < n2) : w.cell? ⟨N, k * 2 + 1, none⟩ = some (.int .u64 (hi k)) := by
  rw [h.cell (by omega)]
  have h1 : (k * 2 + 1) % 2 = 1 := by omega
  have h2 : (k * 2 + 1) / 2 = k := by omega
  simp [nd, h1, h2]

/-- The bounds of a leaf of that age: no id at all where the age is 0. -/
def leafLo (a : Int) : Int := if a = 0 then 18446744073709551615 else a
def leafHi (a : Int) : Int := a

/-- A list of holders at ⟨L, p⟩: n cores cs, with their wounds and ids. -/
structure ListAt (w : World) (L p tb n cap : Nat) (cs : Nat → Nat) (wd id : Nat → Int) : Prop where
  sl : w.cell? ⟨L, p, none⟩ = some (.slice (some ⟨tb, 0, none⟩) n cap)
  ts : ∀ i, i < n → w.cell? ⟨tb, i, none⟩ = some (.pointer (some ⟨cs i, 0, none⟩))
  wd : ∀ i, i < n → w.cell? ⟨cs i, 35, none⟩ = some (.int .u32 (wd i))
  id : ∀ i, i < n → w.cell? ⟨cs i, 37, none⟩ = some (.int .u64 (id i))

theorem Turned.cell {a b : World} {T : Nat → Prop} (h : Turned a b T) {p : Addr} {v : Value} (hc : a.cell? p = some v) (hp : ¬ T p.block) : b.cell? p = some v :=
  (World.cell?_of_block (h.block p.block (World.block_lt_of_cell? a p hc) hp)).trans hc

theorem ListAt.turned {w w' : World} {L p tb n cap : Nat} {cs : Nat → Nat} {wd id : Nat → Int} {T : Nat → Prop} (h : ListAt w L p tb n cap cs wd id) (hT : Turned w w' T) (h1 : ¬ T L) (h2 : ¬ T tb) (h3 : ∀ i, i < n → ¬ T (cs i)) : ListAt w' L p tb n cap cs wd id :=
  ⟨hT.cell h.sl h1, fun i hi => hT.cell (h.ts i hi) h2, fun i hi => hT.cell (h.wd i hi) (h3 i hi), fun i hi => hT.cell (h.id i hi) (h3 i hi)⟩

/-- The tree's three cells. -/
structure TreeAt (w : World) (L o N n2 sz bs : Nat) : Prop where
  nd : w.cell? ⟨L, o, none⟩ = some (.slice (some ⟨N, 0, none⟩) n2 n2)
  sz : w.cell? ⟨L, o + 1, none⟩ = some (.int .i64 sz)
  bs : w.cell? ⟨L, o + 2, none⟩ = some (.int .i64 bs)

theorem TreeAt.turned {w w' : World} {L o N n2 sz bs : Nat} {T : Nat → Prop} (h : TreeAt w L o N n2 sz bs) (hT : Turned w w' T) (h1 : ¬ T L) : TreeAt w' L o N n2 sz bs :=
  ⟨hT.cell h.nd h1, hT.cell h.sz h1, hT.cell h.bs h1⟩

/-- The leaves from f on, x of them, set. -/
def leaves (g : Int → Int) (ag : Nat → Int) (f x : Nat) (lo : Nat → Int) (k : Nat) : Int := if f ≤ k ∧ k < f + x then g (ag (k - f)) else lo k

theorem leaves_zero (g : Int → Int) (ag : Nat → Int) (f : Nat) (lo : Nat → Int) : leaves g ag f 0 lo = lo := by
  funext k
  unfold leaves
  rw [if_neg (by omega)]

theorem leaves_succ (g : Int → Int) (ag : Nat → Int) (f x : Nat) (lo : Nat → Int) : updI (leaves g ag f x lo) (f + x) (g (ag x)) = leaves g ag f (x + 1) lo := by
  funext k
  unfold updI leaves
  by_cases e : k = f + x
  · subst e
    have h : f + x - f = x := by omega
    rw [if_pos rfl, if_pos (by omega), h]
  · rw [if_neg e]
    by_cases h : f ≤ k ∧ k < f + x
    · rw [if_pos h, if_pos (by omega)]
    · rw [if_neg h, if_neg (by omega)]

theorem setLeaves_any (L p tb n cap N sz bs : Nat) (cs : Nat → Nat) (wd id : Nat → Int) (lo hi : Nat → Int) (w : World) (hn : n ≤ 1024) (hsz : sz ≤ 4096) (hbs : bs + n ≤ sz) (hid : ∀ i, 0 ≤ id i ∧ id i ≤ 100)
    (hL : ListAt w L p tb n cap cs wd id) (hT : TreeAt w L (p + 1) N (2 * sz) sz bs) (hN : RowAt w N 128 (2 * sz * 2) (nd lo hi)) (n1 : L ≠ N) (n2 : tb ≠ N) (n3 : ∀ i, i < n → cs i ≠ N) :
    Calls Yba.prog 38 #[.pointer (some ⟨L, p + 1, none⟩), .int .i64 0, .int .i64 n, .func (.func 26) #[.pointer (some ⟨L, p, none⟩)] #[]] w fun e w' => e = .returned (.tuple #[]) ∧
      RowAt w' N 128 (2 * sz * 2) (nd (leaves leafLo (fun i => ageOf (wd i) (id i)) (sz + bs) n lo) (leaves leafHi (fun i => ageOf (wd i) (id i)) (sz + bs) n hi)) ∧ Turned w w' (fun b => b = N) := by
  go_enter Yba.func38, Yba.ntmps38
  go_wp2_with fail
  go_loopw [8] (fun t wr => ∃ x : Nat, t = .int .i64 x ∧ x ≤ n ∧ RowAt wr N 128 (2 * sz * 2) (nd (leaves leafLo (fun i => ageOf (wd i) (id i)) (sz + bs) x lo) (leaves leafHi (fun i => ageOf (wd i) (id i)) (sz + bs) x hi)) ∧ Turned w wr (fun b => b = N)) (fun t _ => n - (intOf t).toNat)
  case atStart => exact ⟨0, rfl, Nat.zero_le _, by rw [leaves_zero, leaves_zero]; exact hN, Turned.refl _ _⟩
  case round =>
    clear hN
    obtain ⟨x, rfl, hx, hR, hW⟩ := hrel
    by_cases hlt : x < n
    · have hL1 := hL.turned hW n1 n2 n3
      have hT1 := hT.turned hW n1
      have hc := idAt_any L p tb n cap x (cs x) hlt hn (wd x) (id x) wr hL1.sl (hL1.ts x hlt) (hL1.wd x hlt) (hL1.id x hlt)
      obtain ⟨a, ha⟩ : ∃ a : Int, a = ageOf (wd x) (id x) := ⟨_, rfl⟩
      rw [← ha] at hc
      have ha0 : 0 ≤ a ∧ a ≤ 100 := by
        have := hid x
        rw [ha]
        unfold ageOf
        split <;> omega
      have hk : sz + bs + x < 2 * sz := by omega
      have t0 := hT1.nd
      have t1 := hT1.sz
      have t2 := hT1.bs
      have hLl := World.block_lt_of_cell? wr _ t0
      have hNl := hR.lt
      have c0 := nd_lo hR hk
      have c1 := nd_hi hR hk
      have cF := hR.frozen
      have hfin : ∀ w9 : World, RowAt w9 N 128 (2 * sz * 2) (nd (leaves leafLo (fun i => ageOf (wd i) (id i)) (sz + bs) x lo) (leaves leafHi (fun i => ageOf (wd i) (id i)) (sz + bs) x hi)) → RowAt ((w9.setCell ⟨N, (sz + bs + x) * 2, none⟩ (.int .u64 (leafLo a))).setCell ⟨N, (sz + bs + x) * 2 + 1, none⟩ (.int .u64 (leafHi a))) N 128 (2 * sz * 2) (nd (leaves leafLo (fun i => ageOf (wd i) (id i)) (sz + bs) (x + 1) lo) (leaves leafHi (fun i => ageOf (wd i) (id i)) (sz + bs) (x + 1) hi)) := by
        intro w9 h9
        have := nd_set h9 hk (leafLo a) (leafHi a)
        rw [ha, leaves_succ, leaves_succ] at this
        rw [ha]
        exact this
      by_cases hz : a = 0
      · have hzb : (a == 0) = true := by simpa using hz
        have e1 : leafLo a = 18446744073709551615 := by simp [leafLo, hz]
        have e2 : leafHi a = 0 := hz
        rw [e1, e2] at hfin
        have HF : Hid (∀ w9 : World, _ → RowAt _ N 128 (2 * sz * 2) _) := hfin
        clear hfin e1 e2 hz ha hL hT hL1 hT1
        go_wp2_with (go_at_call 26; refine hc.mono ?_; rintro e w' ⟨rfl, rfl⟩)
        go_region
        go_wp2_with fail
        go_roundw
        case rel => exact ⟨x + 1, by go_num, by omega, ((HF.out wr hR).alloc _).drew, (((hW.setCell ⟨N, _, none⟩ (.inl rfl) _).setCell ⟨N, _, none⟩ (.inl rfl) _).alloc _).drew⟩
        case measure => simp [intOf]; omega
      · have hzb : (a == 0) = false := by simpa using hz
        have e1 : leafLo a = a := by simp [leafLo, hz]
        have e2 : leafHi a = a := rfl
        rw [e1, e2] at hfin
        have HF : Hid (∀ w9 : World, _ → RowAt _ N 128 (2 * sz * 2) _) := hfin
        clear hfin e1 e2 hz ha hL hT hL1 hT1
        go_wp2_with (go_at_call 26; refine hc.mono ?_; rintro e w' ⟨rfl, rfl⟩)
        go_region
        go_wp2_with fail
        go_roundw
        case rel => exact ⟨x + 1, by go_num, by omega, ((HF.out wr hR).alloc _).drew, (((hW.setCell ⟨N, _, none⟩ (.inl rfl) _).setCell ⟨N, _, none⟩ (.inl rfl) _).alloc _).drew⟩
        case measure => simp [intOf]; omega
    · obtain rfl : x = n := by omega
      go_wp2_with fail
      go_end0
      exact ⟨rfl, hR, hW⟩
end Go.Proofs.Ybulkcrkq
