/- The rounds of the look over a holder set. -/
import Derived.Test.YbulkcrkqSeqState
namespace Go.Proofs.Ybulkcrkq
open Go.ChangeShapes Go.WideShapes Go.ChangeAt Go.RowKit
set_option maxHeartbeats 1000000
set_option maxRecDepth 20000
set_option linter.unusedVariables false

/-- What the look leaves: the wanted ones have been yielded, as far as go went; the set is as it was. -/
def SeqPost (Y M : Nat → Prop) (X : List Nat) (go : List Nat → Bool) (J : List Nat → World → Prop) (s c0 : Nat) (fm : Int) (oth : Option Nat) (m : Nat) (cnt : Nat → Int) (kc : List Nat) (v : Option Addr → Int × Int) (md : Nat → Nat) (wdf idf : Nat → Int) (set q : Int) (older : Bool) (w' : World) : Prop :=
  (∃ D, D.Nodup ∧ (∀ c, c ∈ D ↔ c ∈ c0 :: kc ∧ Wants md wdf idf set q older c) ∧ J (visit go [] D).1 w') ∧
  ∃ age' v', HSet w' s (key c0) fm oth m cnt age' (kc.map key) v' ∧ (∀ k, (v' k).1 = (v k).1) ∧ AgeOk w' Y M X c0 kc md wdf idf age'

/-- The state ahead of mode k. -/
structure Going (w5 : World) (Y : Nat → Prop) (go : List Nat → Bool) (J : List Nat → World → Prop) (L c0 : Nat) (kc : List Nat) (md : Nat → Nat) (wdf idf : Nat → Int) (set q : Int) (older : Bool) (ls : Nat → List Nat) (k : Nat) (D : List Nat) (wr : World) : Prop where
  nd : D.Nodup
  mem : ∀ c, c ∈ D ↔ (c = c0 ∨ (c ∈ kc ∧ md c < k)) ∧ Wants md wdf idf set q older c
  on : (visit go [] D).2 = true
  j : J (visit go [] D).1 wr
  lists : Lists wr L Y ls wdf idf
  turn : Turned w5 wr (fun b => Y b ∨ b = L)

section
variable {w5 : World} {Y : Nat → Prop} {go : List Nat → Bool} {J : List Nat → World → Prop} {L c0 : Nat} {kc : List Nat} {md : Nat → Nat} {wdf idf : Nat → Int} {set q : Int} {older : Bool} {ls : Nat → List Nat} {k : Nat} {D : List Nat} {wr : World}

theorem Going.skip (h : Going w5 Y go J L c0 kc md wdf idf set q older ls k D wr) (hk : hasM set (k : Nat) = false) : Going w5 Y go J L c0 kc md wdf idf set q older ls (k + 1) D wr := by
  refine { h with mem := fun c => ?_ }
  rw [h.mem c]
  constructor
  · rintro ⟨h1, h2⟩
    exact ⟨h1.imp id (fun h => ⟨h.1, by omega⟩), h2⟩
  · rintro ⟨h1, h2⟩
    refine ⟨h1.imp id (fun h => ⟨h.1, ?_⟩), h2⟩
    by_cases e : md c = k
    · exfalso
      have := h2.2.1
      rw [e, hk] at this
      cases this
    · omega

/-- The wanted ones of mode k join. -/
theorem Going.join (h : Going w5 Y go J L c0 kc md wdf idf set q older ls k D wr) (hls : ∀ c, c ∈ ls k ↔ c ∈ kc ∧ md c = k) (hk : hasM set (k : Nat) = true) (hc0 : c0 ∉ kc) {E : List Nat} (hE : E.Nodup) (hm : ∀ c, c ∈ E ↔ c ∈ ls k ∧ wdf c = 0 ∧ fits older q (idf c) = true) :
    (D ++ E).Nodup ∧ ∀ c, c ∈ D ++ E ↔ (c = c0 ∨ (c ∈ kc ∧ md c < k + 1)) ∧ Wants md wdf idf set q older c := by
  constructor
  · refine List.nodup_append.2 ⟨h.nd, hE, fun a ha b hb e => ?_⟩
    subst e
    obtain ⟨h1, _⟩ := (h.mem a).1 ha
    obtain ⟨h2, h3⟩ := (hls a).1 ((hm a).1 hb).1
    rcases h1 with rfl | h1
    · exact hc0 h2
    · omega
  · intro c
    rw [List.mem_append, h.mem c, hm c, hls c]
    constructor
    · rintro (⟨h1, h2⟩ | ⟨⟨h1, h2⟩, h3, h4⟩)
      · exact ⟨h1.imp id (fun h => ⟨h.1, by omega⟩), h2⟩
      · exact ⟨.inr ⟨h1, by omega⟩, h3, by rw [h2]; exact hk, h4⟩
    · rintro ⟨h1, h2⟩
      rcases h1 with h1 | ⟨h1, h3⟩
      · exact .inl ⟨.inl h1, h2⟩
      · by_cases e : md c = k
        · exact .inr ⟨⟨h1, e⟩, h2.1, h2.2.2⟩
        · exact .inl ⟨.inr ⟨h1, by omega⟩, h2⟩

theorem Going.looked (h : Going w5 Y go J L c0 kc md wdf idf set q older ls k D wr) (hls : ∀ c, c ∈ ls k ↔ c ∈ kc ∧ md c = k) (hk : hasM set (k : Nat) = true) (hc0 : c0 ∉ kc) {wb w' : World} (hT : Turned wr wb (fun _ => False)) (hL : ListLooked go J Y L ls wdf idf q older (ls k) (visit go [] D).1 wb true w') :
    ∃ D', Going w5 Y go J L c0 kc md wdf idf set q older ls (k + 1) D' w' := by
  obtain ⟨E, h1, h2, h3, h4, h5, h6⟩ := hL
  obtain ⟨j1, j2⟩ := h.join hls hk hc0 h1 h2
  have hv := visit_on go D [] E h.on
  exact ⟨D ++ E, j1, j2, by rw [hv]; exact h3.symm, by rw [hv]; exact h4, h6, (h.turn.trans (hT.mono (fun _ _ h => h.elim))).trans (h5.mono (fun _ _ h => .inl h))⟩

theorem Going.stopped (h : Going w5 Y go J L c0 kc md wdf idf set q older ls k D wr) (hls : ∀ c, c ∈ ls k ↔ c ∈ kc ∧ md c = k) (hk : hasM set (k : Nat) = true) (hc0 : c0 ∉ kc) (hnd : kc.Nodup) {wb w' : World} (hT : Turned wr wb (fun _ => False)) (hL : ListLooked go J Y L ls wdf idf q older (ls k) (visit go [] D).1 wb false w') :
    (∃ D, D.Nodup ∧ (∀ c, c ∈ D ↔ c ∈ c0 :: kc ∧ Wants md wdf idf set q older c) ∧ J (visit go [] D).1 w') ∧ Lists w' L Y ls wdf idf ∧ Turned w5 w' (fun b => Y b ∨ b = L) := by
  obtain ⟨E, h1, h2, h3, h4, h5, h6⟩ := hL
  obtain ⟨j1, j2⟩ := h.join hls hk hc0 h1 h2
  have hv := visit_on go D [] E h.on
  have hf : (visit go [] (D ++ E)).2 = false := by rw [hv]; exact h3.symm
  have : DecidablePred (fun c => Wants md wdf idf set q older c) := fun c => by unfold Wants; exact inferInstance
  obtain ⟨rest, r1, r2⟩ := fill_up (fun c => Wants md wdf idf set q older c) (c0 :: kc) (D ++ E) (List.nodup_cons.2 ⟨hc0, hnd⟩) j1 (fun c hc => by
    obtain ⟨a, b⟩ := (j2 c).1 hc
    refine ⟨?_, b⟩
    rcases a with rfl | a
    · simp
    · exact List.mem_cons_of_mem _ a.1)
  refine ⟨⟨D ++ E ++ rest, r1, r2, ?_⟩, h6, (h.turn.trans (hT.mono (fun _ _ h => h.elim))).trans (h5.mono (fun _ _ h => .inl h))⟩
  rw [visit_rest hf, hv]
  exact h4

theorem Going.done (h : Going w5 Y go J L c0 kc md wdf idf set q older ls 6 D wr) (hmd : ∀ c, c ∈ kc → md c ≤ 5) : ∃ D, D.Nodup ∧ (∀ c, c ∈ D ↔ c ∈ c0 :: kc ∧ Wants md wdf idf set q older c) ∧ J (visit go [] D).1 wr := by
  refine ⟨D, h.nd, fun c => ?_, h.j⟩
  rw [h.mem c, List.mem_cons]
  constructor
  · rintro ⟨h1, h2⟩
    exact ⟨h1.imp id (fun h => h.1), h2⟩
  · rintro ⟨h1, h2⟩
    exact ⟨h1.imp id (fun h => ⟨h, by have := hmd c h; omega⟩), h2⟩

theorem seq_first {w4 : World} {oth : Option Nat} (hD0n : D.Nodup) (hD0m : ∀ c, c ∈ D ↔ c = c0 ∧ Wants md wdf idf set q older c) (hJ : J (visit go [] D).1 w4) (hnd : (c0 :: kc).Nodup) (hstop : (!(visit go [] D).2 || oth.isNone) = true) (hnone : oth = none → kc = []) :
    ∃ D, D.Nodup ∧ (∀ c, c ∈ D ↔ c ∈ c0 :: kc ∧ Wants md wdf idf set q older c) ∧ J (visit go [] D).1 w4 := by
  cases hv : (visit go [] D).2 with
  | false =>
    have : DecidablePred (fun c => Wants md wdf idf set q older c) := fun c => by unfold Wants; exact inferInstance
    obtain ⟨rest, r1, r2⟩ := fill_up (fun c => Wants md wdf idf set q older c) (c0 :: kc) D hnd hD0n (fun c hc => by
      obtain ⟨a, b⟩ := (hD0m c).1 hc
      exact ⟨by rw [a]; simp, b⟩)
    exact ⟨D ++ rest, r1, r2, by rw [visit_rest hv]; exact hJ⟩
  | true =>
    rw [hv] at hstop
    have ho : oth = none := by
      cases oth with
      | none => rfl
      | some o => simp at hstop
    have hk := hnone ho
    subst hk
    exact ⟨D, hD0n, fun c => by rw [hD0m c]; simp, hJ⟩
end
end Go.Proofs.Ybulkcrkq
