/- The look at the list of one mode. -/
import Derived.Test.YbulkcrkqState
namespace Go.Proofs.Ybulkcrkq
open Go.ChangeShapes Go.WideShapes Go.ChangeAt Go.RowKit
set_option maxHeartbeats 1000000
set_option maxRecDepth 20000
set_option linter.unusedVariables false

theorem ofAge25_none (ptr ids yv : Value) (n q : Int) (older : Bool) (w : World) :
    Calls Yba.prog 25 #[ptr, .int .i64 n, ids, .int .i64 0, .int .i64 0, .int .u64 q, .bool older, yv] w fun e w' => e = .returned (.bool true) ∧ w.alloc (.cells #[.int .u64 q] 42) = w' := by
  go_enter Yba.func25, Yba.ntmps25
  go_wp2_with fail
  go_ret
  exact ⟨rfl, rfl⟩

theorem hold_iff {older : Bool} {q wd id : Int} (hq : 0 ≤ q ∧ q ≤ 100) (hid : 1 ≤ id) : hold older q (leafLo (ageOf wd id)) (leafHi (ageOf wd id)) = true ↔ wd = 0 ∧ fits older q id = true := by
  constructor
  · intro h
    have hw := hold_unwounded hq h
    subst hw
    refine ⟨rfl, ?_⟩
    have e : ageOf 0 id = id := by simp [ageOf]
    rw [e] at h
    have e2 : leafLo id = id := by unfold leafLo; rw [if_neg (by omega)]
    rw [e2] at h
    cases older
    · exact h
    · exact h
  · rintro ⟨rfl, h⟩
    have e : ageOf 0 id = id := by simp [ageOf]
    rw [e]
    have e2 : leafLo id = id := by unfold leafLo; rw [if_neg (by omega)]
    rw [e2]
    cases older
    · exact h
    · exact h

theorem getD_inj {l : List Nat} (hn : l.Nodup) {i j : Nat} (hi : i < l.length) (hj : j < l.length) (h : l.getD i 0 = l.getD j 0) : i = j := by
  have e1 : l.getD i 0 = l[i] := by simp [List.getD, hi]
  have e2 : l.getD j 0 = l[j] := by simp [List.getD, hj]
  rw [← hn.idxOf_getElem i hi, ← hn.idxOf_getElem j hj, ← e1, ← e2, h]

theorem getD_mem {l : List Nat} {i : Nat} (hi : i < l.length) : l.getD i 0 ∈ l := by
  have e1 : l.getD i 0 = l[i] := by simp [List.getD, hi]
  rw [e1]
  exact List.getElem_mem hi

theorem map_nodup {l c : List Nat} (hn : l.Nodup) (hc : c.Nodup) (hl : ∀ i, i ∈ c → i < l.length) : (c.map (fun i => l.getD i 0)).Nodup := by
  rw [List.Nodup, List.pairwise_map]
  refine List.Pairwise.imp_of_mem ?_ hc
  intro a b ha hb hab h
  exact hab (getD_inj hn (hl a ha) (hl b hb) h)

/-- What the look at one mode's list leaves. -/
def ListLooked (go : List Nat → Bool) (J : List Nat → World → Prop) (Y : Nat → Prop) (L : Nat) (ls : Nat → List Nat) (wdf idf : Nat → Int) (q : Int) (older : Bool) (l : List Nat) (l0 : List Nat) (w : World) (b : Bool) (w' : World) : Prop :=
  ∃ D : List Nat, D.Nodup ∧ (∀ c, c ∈ D ↔ c ∈ l ∧ wdf c = 0 ∧ fits older q (idf c) = true) ∧ b = (visit go l0 D).2 ∧ J (visit go l0 D).1 w' ∧ Turned w w' (fun b => Y b ∨ b = L) ∧ Lists w' L Y ls wdf idf

theorem lookList {F : Nat} {caps : Array Value} {Y M : Nat → Prop} {go : List Nat → Bool} {Q : Nat → Prop} {J : List Nat → World → Prop} (hF : F = 15 ∨ F = 17) (hY : YieldOk F caps Y M go Q J)
    (L C1 C2 m : Nat) (q : Int) (older : Bool) (ls : Nat → List Nat) (wdf idf : Nat → Int) (hm : m < 6) (hn : (ls m).length ≤ 400) (hnd : (ls m).Nodup) (hq : 0 ≤ q ∧ q ≤ 100) (hid : ∀ c, 1 ≤ idf c ∧ idf c ≤ 100) (w : World)
    (hLs : Lists w L Y ls wdf idf) (hcore : ∀ c, c ∈ ls m → w.cell? ⟨c, 35, none⟩ = some (.int .u32 (wdf c)) ∧ w.cell? ⟨c, 37, none⟩ = some (.int .u64 (idf c)))
    (h1 : w.cell? ⟨C1, 0, none⟩ = some (.pointer (some ⟨L, 4 * m, none⟩))) (h2 : w.cell? ⟨C2, 0, none⟩ = some (.func (.func F) #[] caps))
    (l0 : List Nat) (hJ : J l0 w) (hQ : ∀ c, c ∈ ls m → wdf c = 0 → fits older q (idf c) = true → Q c) (hnew : ∀ c, c ∈ ls m → c ∉ l0)
    (y1 : ¬ Y L) (y3 : ∀ c, c ∈ ls m → ¬ Y c) (y4 : ¬ Y C1) (y5 : ¬ Y C2) (y6 : ∀ b, Y b → b < w.heap.size) (m1 : ¬ M L) (k2 : ∀ c, c ∈ ls m → c ≠ L) (k3 : C1 ≠ L) (k4 : C2 ≠ L) :
    ∃ v : Value, w.cell? ⟨L, 4 * m, none⟩ = some v ∧ (∃ a cap, v = .slice a (ls m).length cap) ∧
    Calls Yba.prog 25 #[.pointer (some ⟨L, 4 * m + 1, none⟩), .int .i64 ((ls m).length : Nat), .func (.func 26) #[.pointer (some ⟨L, 4 * m, none⟩)] #[], .int .i64 0, .int .i64 ((ls m).length : Nat), .int .u64 q, .bool older, .func (.func 27) #[] #[.pointer (some ⟨C1, 0, none⟩), .pointer (some ⟨C2, 0, none⟩)]] w
      fun e w' => ∃ b, e = .returned (.bool b) ∧ ListLooked go J Y L ls wdf idf q older (ls m) l0 w b w' ∧ w'.cell? ⟨L, 4 * m, none⟩ = some v := by
  obtain ⟨g, hR, ha⟩ := hLs
  have hO := ha m hm
  by_cases hl : ls m = []
  · obtain ⟨a, cap, hg⟩ := hO.emp hl
    refine ⟨g (4 * m), hR.cell (by omega), ⟨a, cap, by rw [hg, hl]; rfl⟩, ?_⟩
    rw [hl]
    refine (ofAge25_none _ _ _ _ q older w).mono ?_
    rintro e w' ⟨rfl, rfl⟩
    have TA : Turned w (w.alloc (.cells #[.int .u64 q] 42)) (fun _ => False) := (Turned.refl _ _).alloc _
    exact ⟨true, rfl, ⟨[], List.nodup_nil, by simp, rfl, hY.keep _ _ _ _ hJ TA (fun _ _ h => h), TA.mono (fun _ _ h => h.elim), Lists.turned ⟨g, hR, ha⟩ TA (fun _ _ h => h.elim) y1⟩, TA.cell (hR.cell (by omega)) (fun h => h)⟩
  · obtain ⟨tb, cap, hg, hts, hyt, htL⟩ := hO.full hl
    refine ⟨g (4 * m), hR.cell (by omega), ⟨_, cap, hg⟩, ?_⟩
    have hlen : 1 ≤ (ls m).length := List.length_pos_iff.2 hl
    have hLA : ListAt w L (4 * m) tb (ls m).length cap (fun i => (ls m).getD i 0) (fun i => wdf ((ls m).getD i 0)) (fun i => idf ((ls m).getD i 0)) :=
      ⟨by rw [hR.cell (by omega), hg], hts, fun i hi => (hcore _ (getD_mem hi)).1, fun i hi => (hcore _ (getD_mem hi)).2⟩
    have htr : g (4 * m + 1) = .slice none 0 0 ∨ TreeIs w Y (4 * m) (ls m).length (fun i => ageOf (wdf ((ls m).getD i 0)) (idf ((ls m).getD i 0))) g := hO.tree.imp id (fun h => h.2)
    have h25 := ofAge25_any hF hY L (4 * m) tb (ls m).length cap 124 24 C1 C2 q older g (fun i => (ls m).getD i 0) (fun i => wdf ((ls m).getD i 0)) (fun i => idf ((ls m).getD i 0)) hlen hn (by omega) hq (fun i => by have := hid ((ls m).getD i 0); omega) w hR htr hLA h1 h2 l0 hJ
      (fun i hi hw hh => hQ _ (getD_mem hi) hw ((hold_iff hq (hid _).1).1 hh).2) (fun i hi => hnew _ (getD_mem hi)) (fun i j hi hj h => getD_inj hnd hi hj h) y1 hyt (fun i hi => y3 _ (getD_mem hi)) y4 y5 y6 m1 htL (fun i hi => k2 _ (getD_mem hi)) k3 k4
    refine h25.mono ?_
    rintro e w' ⟨b, rfl, c, hc1, hc2, hb, hJ', hT, g', hR', hg', htr'⟩
    refine ⟨b, rfl, ⟨c.map (fun i => (ls m).getD i 0), map_nodup hnd hc1 (fun i hi => ((hc2 i).1 hi).1), fun x => ?_, hb, hJ', hT, g', hR', fun m' hm' => ?_⟩, by rw [hR'.cell (by omega), hg' _ (by omega) (by omega) (by omega)]⟩
    · constructor
      · intro hx
        obtain ⟨i, hi, rfl⟩ := List.mem_map.1 hx
        obtain ⟨hi1, hi2⟩ := (hc2 i).1 hi
        exact ⟨getD_mem hi1, (hold_iff hq (hid _).1).1 hi2⟩
      · rintro ⟨hx, hx2⟩
        obtain ⟨i, hi, rfl⟩ := List.getElem_of_mem hx
        have e1 : (ls m).getD i 0 = (ls m)[i] := by simp [List.getD, hi]
        refine List.mem_map.2 ⟨i, (hc2 i).2 ⟨hi, ?_⟩, e1⟩
        rw [← e1] at hx2
        exact (hold_iff hq (hid _).1).2 hx2
    · by_cases e : m' = m
      · subst e
        refine ⟨fun h => absurd h hl, fun _ => ⟨tb, cap, (hg' _ (by omega) (by omega) (by omega)).trans hg, fun i hi => hT.cell (hts i hi) (fun h => h.elim hyt htL), hyt, htL⟩, .inr ⟨hl, htr'⟩⟩
      · exact (ha m' hm').turned (e := 0) (nL := 0) hR hT (fun j h1 h2 => hg' j (by omega) (by omega) (by omega))
end Go.Proofs.Ybulkcrkq
