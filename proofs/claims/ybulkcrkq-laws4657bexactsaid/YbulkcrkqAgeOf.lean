/- The look at one list of holders by age. -/
import Derived.Test.YbulkcrkqAgeWalk
namespace Go.Proofs.Ybulkcrkq
open Go.ChangeShapes Go.WideShapes Go.ChangeAt Go.RowKit
set_option maxHeartbeats 1000000
set_option maxRecDepth 20000
set_option linter.unusedVariables false

theorem LaidOut.holds {L p n eL nL : Nat} {g : Nat → Value} {ag : Nat → Int} {w w' : World} (hp : p + 3 < nL) (h : LaidOut L p n eL nL g ag w w') (Y : Nat → Prop) (hYs : ∀ b, Y b → b < w.heap.size) :
    ∃ g', RowAt w' L eL nL g' ∧ (∀ j, j ≠ p + 1 → j ≠ p + 2 → j ≠ p + 3 → g' j = g j) ∧ TreeIs w' Y p n ag g' ∧ Turned w w' (fun b => b = L) := by
  obtain ⟨N, d, bs, lo, hi, hR, hN, hT, hs, hW⟩ := h
  refine ⟨_, hR, fun j h1 h2 h3 => by rw [upd_other _ _ _ h1, upd_other _ _ _ h3, upd_other _ _ _ h2], ⟨N, d, bs, lo, hi, upd_same _ _ _, ?_, ?_, hN, hT, fun hy => by have := hYs N hy; omega⟩, hW⟩
  · rw [upd_other _ _ _ (by omega), upd_other _ _ _ (by omega), upd_same]
  · rw [upd_other _ _ _ (by omega), upd_same]

/-- What is left of the look at one list. -/
def LookLeft (go : List Nat → Bool) (J : List Nat → World → Prop) (Y : Nat → Prop) (L p n eL nL : Nat) (g : Nat → Value) (cs : Nat → Nat) (ag : Nat → Int) (q : Int) (older : Bool) (l : List Nat) (w : World) (b : Bool) (w' : World) : Prop :=
  ∃ c : List Nat, c.Nodup ∧ (∀ i, i ∈ c ↔ i < n ∧ hold older q (leafLo (ag i)) (leafHi (ag i)) = true) ∧ b = (visit go l (c.map cs)).2 ∧ J (visit go l (c.map cs)).1 w' ∧ Turned w w' (fun b => Y b ∨ b = L) ∧
    ∃ g', RowAt w' L eL nL g' ∧ (∀ j, j ≠ p + 1 → j ≠ p + 2 → j ≠ p + 3 → g' j = g j) ∧ TreeIs w' Y p n ag g'

theorem TreeIs.turned {w w' : World} {Y : Nat → Prop} {p n : Nat} {ag : Nat → Int} {g : Nat → Value} (h : TreeIs w Y p n ag g) (hT : Turned w w' Y) : TreeIs w' Y p n ag g := by
  obtain ⟨N, d, bs, lo, hi, h1, h2, h3, hN, hk, hy⟩ := h
  exact ⟨N, d, bs, lo, hi, h1, h2, h3, hT.row hN hy, hk, hy⟩

theorem cand_all {n d bs : Nat} {ok : Nat → Bool} (hf : bs + n ≤ 2 ^ d) (i : Nat) : i ∈ cand n bs ok 0 (2 ^ d) ↔ i < n ∧ ok i = true := by
  rw [mem_cand]
  constructor
  · rintro ⟨h1, _, _, h2⟩
    exact ⟨h1, h2⟩
  · rintro ⟨h1, h2⟩
    exact ⟨h1, by omega, by omega, h2⟩

theorem ofAge25_any {F : Nat} {caps : Array Value} {Y M : Nat → Prop} {go : List Nat → Bool} {Q : Nat → Prop} {J : List Nat → World → Prop} (hF : F = 15 ∨ F = 17) (hY : YieldOk F caps Y M go Q J)
    (L p tb n cap eL nL C1 C2 : Nat) (q : Int) (older : Bool) (g : Nat → Value) (cs : Nat → Nat) (wd id : Nat → Int) (hn1 : 1 ≤ n) (hn : n ≤ 400) (hp : p + 3 < nL) (hq : 0 ≤ q ∧ q ≤ 100) (hid : ∀ i, 0 ≤ id i ∧ id i ≤ 100) (w : World)
    (hR : RowAt w L eL nL g) (hg : g (p + 1) = .slice none 0 0 ∨ TreeIs w Y p n (fun i => ageOf (wd i) (id i)) g)
    (hL : ListAt w L p tb n cap cs wd id) (h1 : w.cell? ⟨C1, 0, none⟩ = some (.pointer (some ⟨L, p, none⟩))) (h2 : w.cell? ⟨C2, 0, none⟩ = some (.func (.func F) #[] caps))
    (l : List Nat) (hJ : J l w) (hQ : ∀ i, i < n → wd i = 0 → hold older q (leafLo (ageOf (wd i) (id i))) (leafHi (ageOf (wd i) (id i))) = true → Q (cs i)) (hnew : ∀ i, i < n → cs i ∉ l) (hinj : ∀ i j, i < n → j < n → cs i = cs j → i = j)
    (y1 : ¬ Y L) (y2 : ¬ Y tb) (y3 : ∀ i, i < n → ¬ Y (cs i)) (y4 : ¬ Y C1) (y5 : ¬ Y C2) (y6 : ∀ b, Y b → b < w.heap.size) (m1 : ¬ M L) (k1 : tb ≠ L) (k2 : ∀ i, i < n → cs i ≠ L) (k3 : C1 ≠ L) (k4 : C2 ≠ L) :
    Calls Yba.prog 25 #[.pointer (some ⟨L, p + 1, none⟩), .int .i64 (n : Nat), .func (.func 26) #[.pointer (some ⟨L, p, none⟩)] #[], .int .i64 0, .int .i64 (n : Nat), .int .u64 q, .bool older, .func (.func 27) #[] #[.pointer (some ⟨C1, 0, none⟩), .pointer (some ⟨C2, 0, none⟩)]] w
      fun e w' => ∃ b, e = .returned (.bool b) ∧ LookLeft go J Y L p n eL nL g cs (fun i => ageOf (wd i) (id i)) q older l w b w' := by
  have hB1 : (w.alloc (.cells #[.int .u64 q] 42)).cell? ⟨w.heap.size, 0, none⟩ = some (.int .u64 q) := by simp
  have TA : Turned w (w.alloc (.cells #[.int .u64 q] 42)) (fun _ => False) := (Turned.refl _ _).alloc _
  have y8 : ¬ Y w.heap.size := fun h => by have := y6 _ h; omega
  have hLl := hR.lt
  rcases hg with hg | ⟨N, d, bs, lo, hi, g1, g2, g3, hN, hT, hYN⟩
  · have t0 : w.cell? ⟨L, p + 1, none⟩ = some (.slice none 0 0) := by rw [hR.cell (by omega), hg]
    refine ofAge25_new L p n w.heap.size q older _ _ _ hn1 hn w rfl t0 (LookLeft go J Y L p n eL nL g cs (fun i => ageOf (wd i) (id i)) q older l w) ?_
    refine (layOut_any L p tb n cap eL nL g cs wd id (w.alloc (.cells #[.int .u64 q] 42)) hn1 hn hp hid (hL.turned TA (fun h => h) (fun h => h) (fun _ _ h => h)) (hR.alloc _) k1 k2).mono ?_
    rintro e w4 ⟨rfl, hlay⟩
    obtain ⟨g', hR', hg', ⟨N, d, bs, lo, hi, g1, g2, g3, hN, hT, hYN⟩, hW⟩ := hlay.holds hp Y (fun b hb => by have := y6 b hb; simp; omega)
    have hsz : 2 ^ d ≤ 4096 := Nat.pow_le_pow_right (by omega) hT.dep
    have hfit := hT.fit
    have TW : Turned w w4 (fun b => b = L) := (TA.mono (fun _ _ h => h.elim)).trans (hW.mono (fun _ _ h => .inl h))
    refine ⟨rfl, 2 ^ d, bs, hsz, by omega, by rw [hR'.cell (by omega), g2], by rw [hR'.cell (by omega), g3], ?_⟩
    have hL4 : ListAt w4 L p tb n cap cs wd id := by
      refine ⟨?_, fun i hi => TW.cell (hL.ts i hi) k1, fun i hi => TW.cell (hL.wd i hi) (k2 i hi), fun i hi => TW.cell (hL.id i hi) (k2 i hi)⟩
      rw [hR'.cell (by omega), hg' p (by omega) (by omega) (by omega), ← hR.cell (by omega)]
      exact hL.sl
    have TD : Turned w4 w4.drew (fun _ => False) := (Turned.refl _ _).drew
    have hJ4 : J l w4.drew := hY.keep _ _ _ _ (hY.keep _ _ _ _ hJ TW (fun b hb e => m1 (e ▸ hb))) TD (fun _ _ h => h)
    have := look_any hF hY L p tb n cap C1 C2 w.heap.size N d bs q older lo hi cs wd id hn hq hid w4.drew (hL4.turned TD (fun h => h) (fun h => h) (fun _ _ h => h)) (TD.cell (TW.cell h1 k3) (fun h => h)) (TD.cell (TW.cell h2 k4) (fun h => h))
      (by rw [World.cell?_drew, hR'.cell (by omega), g1]) (by rw [World.cell?_drew, hR'.cell (by omega), g3]) hN.drew hT (TD.cell (hW.cell hB1 (by simp; omega)) (fun h => h)) l hJ4 hQ hnew hinj y1 y2 y3 y4 y5 y8 hYN
    refine this.mono ?_
    rintro e w5 ⟨⟨rfl, hJ5⟩, hW5⟩
    refine ⟨_, rfl, _, cand_nodup _ _ _ _ _, cand_all hfit, rfl, hJ5, (TW.drew.mono (fun _ _ h => .inr h)).trans (hW5.mono (fun _ _ h => .inl (.inl h))), g', hW5.row (TD.row hR' (fun h => h)) y1, hg', ?_⟩
    exact ⟨N, d, bs, lo, hi, g1, g2, g3, hW5.row hN.drew hYN, hT, hYN⟩
  · have hsz : 2 ^ d ≤ 4096 := Nat.pow_le_pow_right (by omega) hT.dep
    have hfit := hT.fit
    have TD : Turned w (w.alloc (.cells #[.int .u64 q] 42)).drew (fun _ => False) := TA.drew
    have hJ4 : J l (w.alloc (.cells #[.int .u64 q] 42)).drew := hY.keep _ _ _ _ hJ TD (fun _ _ h => h)
    have := look_any hF hY L p tb n cap C1 C2 w.heap.size N d bs q older lo hi cs wd id hn hq hid (w.alloc (.cells #[.int .u64 q] 42)).drew (hL.turned TD (fun h => h) (fun h => h) (fun _ _ h => h)) (TD.cell h1 (fun h => h)) (TD.cell h2 (fun h => h))
      (by rw [(TD.row hR (fun h => h)).cell (by omega), g1]) (by rw [(TD.row hR (fun h => h)).cell (by omega), g3]) (TD.row hN (fun h => h)) hT (by rw [World.cell?_drew]; exact hB1) l hJ4 hQ hnew hinj y1 y2 y3 y4 y5 y8 hYN
    have h25 := ofAge25_laid L p n w.heap.size N (2 * 2 ^ d) (2 ^ d) bs q older (.func (.func 26) #[.pointer (some ⟨L, p, none⟩)] #[]) (.pointer (some ⟨C1, 0, none⟩)) (.pointer (some ⟨C2, 0, none⟩)) hn1 hn hsz (by omega) w _ rfl rfl
      (by rw [(hR.alloc _).cell (by omega), g1]) (by rw [(hR.alloc _).cell (by omega), g2]) (by rw [(hR.alloc _).cell (by omega), g3]) (visit go l ((cand n bs (fun i => hold older q (leafLo (ageOf (wd i) (id i))) (leafHi (ageOf (wd i) (id i)))) 0 (2 ^ d)).map cs)).2 (fun w' => J (visit go l ((cand n bs (fun i => hold older q (leafLo (ageOf (wd i) (id i))) (leafHi (ageOf (wd i) (id i)))) 0 (2 ^ d)).map cs)).1 w' ∧ Turned (w.alloc (.cells #[.int .u64 q] 42)).drew w' Y) (this.mono (fun e w' h => ⟨h.1.1, h.1.2, h.2⟩))
    refine h25.mono ?_
    rintro e w5 ⟨rfl, hJ5, hW5⟩
    refine ⟨_, rfl, _, cand_nodup _ _ _ _ _, cand_all hfit, rfl, hJ5, (TD.mono (fun _ _ h => h.elim)).trans (hW5.mono (fun _ _ h => .inl (.inl h))), g, hW5.row (TD.row hR (fun h => h)) y1, fun _ _ _ _ => rfl, ?_⟩
    exact ⟨N, d, bs, lo, hi, g1, g2, g3, hW5.row (TD.row hN (fun h => h)) hYN, hT, hYN⟩
end Go.Proofs.Ybulkcrkq
