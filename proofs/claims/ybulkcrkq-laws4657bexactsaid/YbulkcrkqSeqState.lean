/- What the look over a holder set goes by. -/
import Derived.Test.YbulkcrkqLookAt
namespace Go.Proofs.Ybulkcrkq
open Go.ChangeShapes Go.WideShapes Go.ChangeAt Go.RowKit
set_option maxHeartbeats 1000000
set_option maxRecDepth 20000
set_option linter.unusedVariables false

theorem OkKey.turned {w w' : World} {c : Nat} {T : Nat → Prop} (h : OkKey w (key c)) (hT : Turned w w' T) (hc : ¬ T c) : OkKey w' (key c) := by
  obtain ⟨b, C, e, hb⟩ := h
  cases e
  exact ⟨_, C, rfl, (hT.block _ (Array.getElem?_eq_some_iff.1 hb).1 hc).trans hb⟩

theorem hset_turned {w w' : World} {s c0 : Nat} {fm : Int} {oth : Option Nat} {m : Nat} {cnt : Nat → Int} {age : Option Addr} {kc : List Nat} {v : Option Addr → Int × Int} {T : Nat → Prop} (h : HSet w s (key c0) fm oth m cnt age (kc.map key) v) (hT : Turned w w' T)
    (h1 : ¬ T s) (h2 : ∀ c, c ∈ c0 :: kc → ¬ T c) (h3 : ∀ o, oth = some o → ¬ T o ∧ ¬ T m) : HSet w' s (key c0) fm oth m cnt age (kc.map key) v := by
  refine ⟨hT.row h.row h1, OkKey.turned h.okf hT (h2 c0 (by simp)), fun k hk => ?_, fun o ho => ?_, h.none⟩
  · obtain ⟨c, hc, rfl⟩ := List.mem_map.1 hk
    exact OkKey.turned (h.keys _ hk) hT (h2 c (List.mem_cons_of_mem _ hc))
  · obtain ⟨a, b, d⟩ := h.some o ho
    exact ⟨hT.row a (h3 o ho).1, b.of_block (hT.block m b.lt (h3 o ho).2), d⟩

/-- Core c is to be yielded. -/
def Wants (md : Nat → Nat) (wdf idf : Nat → Int) (set q : Int) (older : Bool) (c : Nat) : Prop := wdf c = 0 ∧ hasM set (md c : Nat) = true ∧ fits older q (idf c) = true

/-- The lists by age of a set: not made, or in block L. -/
def AgeOk (w : World) (Y M : Nat → Prop) (X : List Nat) (c0 : Nat) (kc : List Nat) (md : Nat → Nat) (wdf idf : Nat → Int) (age : Option Addr) : Prop :=
  age = none ∨ ∃ L dn, age = some ⟨L, 0, none⟩ ∧ dn.Nodup ∧ (∀ c, c ∈ dn ↔ c ∈ kc) ∧ Lists w L Y (lsOf md dn) wdf idf ∧ ¬ Y L ∧ ¬ M L ∧ L ∉ X ∧ L ∉ c0 :: kc

/-- What listsByAge leaves. -/
def Aged (w : World) (Y M : Nat → Prop) (X : List Nat) (s c0 : Nat) (fm : Int) (o m : Nat) (cnt : Nat → Int) (kc : List Nat) (v : Option Addr → Int × Int) (md : Nat → Nat) (wdf idf : Nat → Int) (L : Nat) (w' : World) : Prop :=
  ∃ dn v', dn.Nodup ∧ (∀ c, c ∈ dn ↔ c ∈ kc) ∧ Lists w' L Y (lsOf md dn) wdf idf ∧ ¬ Y L ∧ ¬ M L ∧ L ∉ X ∧ L ∉ c0 :: kc ∧ L ≠ s ∧ L ≠ o ∧ L ≠ m ∧ HSet w' s (key c0) fm (some o) m cnt (some ⟨L, 0, none⟩) (kc.map key) v' ∧ (∀ k, (v' k).1 = (v k).1) ∧ Turned w w' (fun b => b = o ∨ b = m)

theorem row_ne {w : World} {a b : Nat} {e e' : TypeId} {n n' : Nat} {g g' : Nat → Value} (h : RowAt w a e n g) (h' : RowAt w b e' n' g') (he : e ≠ e') : a ≠ b := by
  rintro rfl
  obtain ⟨C, hc, _⟩ := h
  obtain ⟨C', hc', _⟩ := h'
  rw [hc] at hc'
  cases hc'
  exact he rfl

theorem core_ne_row {w : World} {c b : Nat} {e : TypeId} {n : Nat} {g : Nat → Value} (h : OkKey w (key c)) (h' : RowAt w b e n g) (he : e ≠ 88) : c ≠ b := by
  rintro rfl
  obtain ⟨b, C, e1, hb⟩ := h
  cases e1
  obtain ⟨C', hc', _⟩ := h'
  rw [hb] at hc'
  cases hc'
  exact he rfl

theorem core_ne_map {w : World} {c m : Nat} {ks : List (Option Addr)} {v : Option Addr → Int × Int} (h : OkKey w (key c)) (h' : MapIs w m ks v) : c ≠ m := by
  rintro rfl
  obtain ⟨b, C, e1, hb⟩ := h
  cases e1
  obtain ⟨es, h1, _⟩ := h'.block
  rw [hb] at h1
  cases h1

theorem OkKey.lt {w : World} {c : Nat} (h : OkKey w (key c)) : c < w.heap.size := by
  obtain ⟨b, C, e1, hb⟩ := h
  cases e1
  exact (Array.getElem?_eq_some_iff.1 hb).1

theorem lists_any (Y M : Nat → Prop) (X : List Nat) (s c0 o m : Nat) (fm : Int) (cnt : Nat → Int) (age : Option Addr) (kc : List Nat) (v : Option Addr → Int × Int) (md : Nat → Nat) (wdf idf : Nat → Int) (w : World)
    (hH : HSet w s (key c0) fm (some o) m cnt age (kc.map key) v) (hA : AgeOk w Y M X c0 kc md wdf idf age) (hmd : ∀ c, c ∈ kc → (v (key c)).1 = (md c : Nat) ∧ md c < 6) (hlen : kc.length ≤ 1000) (hnd : kc.Nodup)
    (hY : ∀ b, Y b → b < w.heap.size) (hM : ∀ b, M b → b < w.heap.size) (hX : ∀ b, b ∈ X → b < w.heap.size) :
    Calls Yba.prog 24 #[.pointer (some ⟨o, 0, none⟩)] w fun e w' => ∃ L, e = .returned (.pointer (some ⟨L, 0, none⟩)) ∧ Aged w Y M X s c0 fm o m cnt kc v md wdf idf L w' := by
  obtain ⟨hO, hMp, hos⟩ := hH.some o rfl
  have hms : m ≠ s := map_ne_row hMp hH.row
  rcases hA with rfl | ⟨L, dn, rfl, h1, h2, h3, h4, h5, h6, h7⟩
  · refine (lists_new o m cnt kc v md w hO hMp (fun c hc => hH.keys _ (List.mem_map.2 ⟨c, hc, rfl⟩)) hmd hlen hnd).mono ?_
    rintro e w' ⟨rfl, sn, dn, v', hall, hL⟩
    have hck : ∀ c, c ∈ c0 :: kc → OkKey w (key c) := by
      intro c hc
      rcases List.mem_cons.1 hc with rfl | hc
      · exact hH.okf
      · exact hH.keys _ (List.mem_map.2 ⟨c, hc, rfl⟩)
    have hcl : ∀ c, c ∈ c0 :: kc → c < w.heap.size := fun c hc => (hck c hc).lt
    refine ⟨_, rfl, dn, v', hL.ndn, fun c => ?_, lists_of_txns Y wdf idf hL.txns (fun b hb => by have := hY b hb; omega), fun h => by have := hY _ h; omega, fun h => by have := hM _ h; omega, fun h => by have := hX _ h; omega, fun h => by have := hcl _ h; omega, ?_, ?_, ?_, ?_, hL.same, hL.turn⟩
    · rw [hL.seen c]
      constructor
      · rintro ⟨j, _, hj⟩
        exact List.mem_of_getElem? hj
      · intro hc
        obtain ⟨j, hj, e⟩ := List.getElem_of_mem hc
        exact ⟨j, hall j hj, by rw [← e]; simp⟩
    · have := hH.row.lt; omega
    · have := hO.lt; omega
    · have := hMp.lt; omega
    · refine ⟨hL.turn.row hH.row (fun h => h.elim (fun e => hos e.symm) (fun e => hms e.symm)), OkKey.turned hH.okf hL.turn ?_, fun k hk => ?_, fun o' ho => ?_, fun h => by cases h⟩
      · exact fun h => h.elim (core_ne_row hH.okf hO (by decide)) (core_ne_map hH.okf hMp)
      · obtain ⟨c, hc, rfl⟩ := List.mem_map.1 hk
        exact OkKey.turned (hH.keys _ hk) hL.turn (fun h => h.elim (core_ne_row (hH.keys _ hk) hO (by decide)) (core_ne_map (hH.keys _ hk) hMp))
      · cases ho
        exact ⟨hL.oh, hL.map, hos⟩
  · refine (lists_old o m L cnt w hO).mono ?_
    rintro e w' ⟨rfl, rfl⟩
    obtain ⟨g, hR, _⟩ := id h3
    exact ⟨L, rfl, dn, v, h1, h2, h3, h4, h5, h6, h7, row_ne hR hH.row (by decide), row_ne hR hO (by decide), fun e => map_ne_row hMp hR e.symm, hH, fun _ => rfl, Turned.refl _ _⟩

/-- What is yielded once the walk has stopped is what is yielded of all. -/
theorem visit_rest {go : List Nat → Bool} {D rest : List Nat} (h : (visit go [] D).2 = false) : visit go [] (D ++ rest) = visit go [] D := visit_off go D [] rest h

/-- A list of some of the wanted ones is filled up. -/
theorem fill_up (p : Nat → Prop) [DecidablePred p] (all D : List Nat) (hall : all.Nodup) (hD : D.Nodup) (hs : ∀ c, c ∈ D → c ∈ all ∧ p c) : ∃ rest, (D ++ rest).Nodup ∧ ∀ c, c ∈ D ++ rest ↔ c ∈ all ∧ p c := by
  refine ⟨all.filter (fun c => decide (p c) && decide (c ∉ D)), ?_, fun c => ?_⟩
  · refine List.nodup_append.2 ⟨hD, hall.filter _, fun a ha b hb e => ?_⟩
    subst e
    simp at hb
    exact hb.2.2 ha
  · simp only [List.mem_append, List.mem_filter, Bool.and_eq_true, decide_eq_true_eq]
    constructor
    · rintro (h | h)
      · exact hs c h
      · exact ⟨h.1, h.2.1⟩
    · rintro ⟨h1, h2⟩
      by_cases hc : c ∈ D
      · exact .inl hc
      · exact .inr ⟨h1, h2, hc⟩
end Go.Proofs.Ybulkcrkq
