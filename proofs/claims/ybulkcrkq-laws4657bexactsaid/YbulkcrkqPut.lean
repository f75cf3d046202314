/- put and putOther while the holders are not listed by age. -/
import Derived.Test.YbulkcrkqSet
import Derived.Deep.DeepCutAuto
import Derived.RegionTactic
import Derived.BigRegion
namespace Go.Proofs.Ybulkcrkq
open Go.ChangeShapes Go.WideShapes Go.ChangeAt Go.RowKit
set_option maxHeartbeats 400000
set_option maxRecDepth 20000
set_option linter.unusedVariables false

/-- w' is w with new blocks and with writes to the blocks of T alone. -/
structure Turned (w w' : World) (T : Nat → Prop) : Prop where
  os : w'.os = w.os
  tape : w'.tape = w.tape
  output : w'.output = w.output
  size : w.heap.size ≤ w'.heap.size
  block : ∀ b, b < w.heap.size → ¬ T b → w'.heap[b]? = w.heap[b]?

theorem Turned.refl (w : World) (T : Nat → Prop) : Turned w w T := ⟨rfl, rfl, rfl, Nat.le_refl _, fun _ _ _ => rfl⟩
theorem Turned.trans {a b c : World} {T : Nat → Prop} (h : Turned a b T) (k : Turned b c (fun i => T i ∨ a.heap.size ≤ i)) : Turned a c T :=
  ⟨k.os.trans h.os, k.tape.trans h.tape, k.output.trans h.output, Nat.le_trans h.size k.size, fun i hi ht => (k.block i (Nat.lt_of_lt_of_le hi h.size) (fun h' => h'.elim ht (fun h2 => by omega))).trans (h.block i hi ht)⟩
theorem Turned.mono {a b : World} {T T' : Nat → Prop} (h : Turned a b T) (ht : ∀ i, i < a.heap.size → T i → T' i) : Turned a b T' :=
  ⟨h.os, h.tape, h.output, h.size, fun i hi hn => h.block i hi (fun h' => hn (ht i hi h'))⟩
theorem Turned.alloc {a w : World} {T : Nat → Prop} (h : Turned a w T) (o : Obj) : Turned a (w.alloc o) T :=
  h.trans ⟨rfl, rfl, rfl, by simp, fun i hi _ => Below.heap_alloc _ _ _ hi⟩
theorem Turned.drew {a w : World} {T : Nat → Prop} (h : Turned a w T) : Turned a w.drew T := ⟨h.os, h.tape, h.output, h.size, h.block⟩
theorem Turned.setCell {a w : World} {T : Nat → Prop} (h : Turned a w T) (p : Addr) (hp : T p.block ∨ a.heap.size ≤ p.block) (u : Value) : Turned a (w.setCell p u) T :=
  h.trans ⟨rfl, rfl, rfl, by simp [World.setCell], fun i hi hn => Below.heap_setCell _ _ _ _ (fun e => hn (e ▸ hp))⟩
theorem Turned.mapPut {a w : World} {T : Nat → Prop} (h : Turned a w T) (b : Nat) (hp : T b ∨ a.heap.size ≤ b) (k : Option Addr) (x : Value) : Turned a (mapPut w b k x) T := by
  have hb := below_mapPut (Below.refl 0 w) (Nat.zero_le b) k x
  exact h.trans ⟨hb.os, hb.tape, hb.output, hb.size, fun i hi hn => mapPut_other w b k x (fun e => hn (e ▸ hp))⟩
theorem Turned.below {a b : World} {T : Nat → Prop} (h : Turned a b T) {B : Nat} (hB : B ≤ a.heap.size) (hT : ∀ i, T i → B ≤ i) : Below B a b :=
  ⟨h.os, h.tape, h.output, h.size, fun i hi => h.block i (by omega) (fun ht => by have := hT i ht; omega)⟩

/-- The blocks that a holder set owns. -/
def OwnB (s : Nat) (oth : Option Nat) (m : Nat) (b : Nat) : Prop := b = s ∨ ∃ o, oth = some o ∧ (b = o ∨ b = m)

/-- The state behind the first 'if' of putOther: there are others now. -/
def Mid (w : World) (s : Nat) (first : Option Addr) (fm : Int) (oth : Option Nat) (m : Nat) (ks : List (Option Addr)) (v : Option Addr → Int × Int) (t : Option Addr) (wc : World) : Prop :=
  ∃ o m' cnt, OkKey wc t ∧ HSet wc s first fm (some o) m' cnt none ks v ∧ Turned w wc (OwnB s oth m) ∧ ((oth = some o ∧ m' = m) ∨ (w.heap.size ≤ o ∧ w.heap.size ≤ m'))

theorem oh_row1 (w : World) (m : Nat) : RowAt (w.alloc (.cells #[.map (some m), .int .i64 0, .int .i64 0, .int .i64 0, .int .i64 0, .int .i64 0, .int .i64 0, .pointer none] 96)) w.heap.size 96 8 (ohRow m (fun _ => 0) none) := by
  refine row_lit w _ 96 8 rfl _ (fun j hj => ?_)
  have h : j = 0 ∨ j = 1 ∨ j = 2 ∨ j = 3 ∨ j = 4 ∨ j = 5 ∨ j = 6 ∨ j = 7 := by omega
  rcases h with rfl | rfl | rfl | rfl | rfl | rfl | rfl | rfl <;> rfl

theorem core_setCell {w : World} {k : Option Addr} (h : OkKey w k) (a : Addr) (u : Value) : OkKey (w.setCell a u) k :=
  h.of_blocks fun b C hb => by
    by_cases e : b = a.block
    · subst e
      simp only [World.setCell, Array.getElem?_modify, if_true, hb]
      exact ⟨_, rfl⟩
    · exact ⟨C, by rw [Below.heap_setCell _ _ _ _ e]; exact hb⟩

theorem core_alloc {w : World} {k : Option Addr} (h : OkKey w k) (o : Obj) : OkKey (w.alloc o) k :=
  h.of_blocks fun b C hb => ⟨C, by rw [Below.heap_alloc _ _ _ (Array.getElem?_eq_some_iff.1 hb).1]; exact hb⟩

theorem core_mapPut {w : World} {k : Option Addr} (h : OkKey w k) (m : Nat) (x : Option Addr) (u : Value) : OkKey (mapPut w m x u) k :=
  h.of_blocks fun b C hb => ⟨C, by
    by_cases e : b = m
    · subst e
      unfold mapPut
      rw [hb]
      exact hb
    · rw [mapPut_other _ _ _ _ e]; exact hb⟩

/-- The first 'if' where there were no others. -/
theorem mid_new {w : World} {s : Nat} {first : Option Addr} {fm : Int} {m : Nat} {cnt : Nat → Int} {ks : List (Option Addr)} {v : Option Addr → Int × Int} (h : HSet w s first fm none m cnt none ks v) (t : Option Addr) (ht : OkKey w t) :
    Mid w s first fm none m ks v t (((w.setCell ⟨s, 2, none⟩ (.pointer (some ⟨w.heap.size + 1, 0, none⟩))).alloc (.map #[] 0)).alloc (.cells #[.map (some w.heap.size), .int .i64 0, .int .i64 0, .int .i64 0, .int .i64 0, .int .i64 0, .int .i64 0, .pointer none] 96)) := by
  have hs := h.row.lt
  have hz : (w.setCell ⟨s, 2, none⟩ (.pointer (some ⟨w.heap.size + 1, 0, none⟩))).heap.size = w.heap.size := by simp [World.setCell]
  obtain ⟨rfl, hv⟩ := h.none rfl
  refine ⟨w.heap.size + 1, w.heap.size, fun _ => 0, core_alloc (core_alloc (core_setCell ht _ _) _) _, ⟨?_, core_alloc (core_alloc (core_setCell h.okf _ _) _) _, fun k hk => by simp at hk, ?_, fun h => by cases h⟩, ((Turned.refl _ _).setCell _ (.inl (.inl rfl)) _).alloc _ |>.alloc _, .inr ⟨by omega, by omega⟩⟩
  · refine (((h.row.set 2 _ (by omega)).alloc _).alloc _).congr (fun i hi => ?_)
    have h : i = 0 ∨ i = 1 ∨ i = 2 := by omega
    rcases h with rfl | rfl | rfl <;> simp [upd, hsRow]
  · intro o ho
    cases ho
    refine ⟨?_, ?_, by omega⟩
    · have h := oh_row1 ((w.setCell ⟨s, 2, none⟩ (.pointer (some ⟨w.heap.size + 1, 0, none⟩))).alloc (.map #[] 0)) w.heap.size
      simp only [World.size_alloc, hz] at h
      exact h
    · have h := mapIs_made (w.setCell ⟨s, 2, none⟩ (.pointer (some ⟨w.heap.size + 1, 0, none⟩)))
      rw [hz] at h
      have e : v = fun _ => (0, 0) := funext hv
      rw [e]
      exact h.of_block (Below.heap_alloc _ _ _ (by simp [hz]))

/-- The state behind the second 'if': the count of the old mode may have gone down. -/
def Mid2 (wc : World) (s : Nat) (first : Option Addr) (fm : Int) (o m : Nat) (ks : List (Option Addr)) (v : Option Addr → Int × Int) (t : Option Addr) (wd : World) : Prop :=
  ∃ cnt, OkKey wd t ∧ HSet wd s first fm (some o) m cnt none ks v ∧ Turned wc wd (fun b => b = o)

theorem hset_count {w : World} {s : Nat} {first : Option Addr} {fm : Int} {o m : Nat} {cnt : Nat → Int} {age : Option Addr} {ks : List (Option Addr)} {v : Option Addr → Int × Int} (h : HSet w s first fm (some o) m cnt age ks v) (q : Nat) (hq : q ≤ 5) (c : Int) :
    HSet (w.setCell ⟨o, 1 + q, none⟩ (.int .i64 c)) s first fm (some o) m (fun i => if i = q then c else cnt i) age ks v := by
  obtain ⟨hO, hM, hos⟩ := h.some o rfl
  have hmo : m ≠ o := by
    intro e
    subst e
    obtain ⟨es, h1, _⟩ := hM.block
    obtain ⟨C, h2, _⟩ := hO
    rw [h1] at h2
    cases h2
  refine ⟨h.row.other _ _ (fun e => hos e.symm), core_setCell h.okf _ _, fun k hk => core_setCell (h.keys k hk) _ _, ?_, fun h => by cases h⟩
  intro o' ho
  cases ho
  refine ⟨(hO.set (1 + q) _ (by omega)).congr (fun i hi => ?_), hM.of_block (Below.heap_setCell _ _ _ _ hmo), hos⟩
  by_cases e : i = 1 + q
  · subst e
    have h2 : 1 + q < 7 := by omega
    simp [upd, ohRow, h2]
  · simp only [upd, e, if_false, ohRow]
    by_cases e0 : i = 0
    · simp [e0]
    · by_cases e7 : i < 7
      · have : ¬ (i - 1 = q) := by omega
        simp [e0, e7, this]
      · simp [e0, e7]

theorem hset_alloc {w : World} {s : Nat} {first : Option Addr} {fm : Int} {oth : Option Nat} {m : Nat} {cnt : Nat → Int} {age : Option Addr} {ks : List (Option Addr)} {v : Option Addr → Int × Int} (h : HSet w s first fm oth m cnt age ks v) (x : Obj) : HSet (w.alloc x) s first fm oth m cnt age ks v :=
  h.below ((Below.refl _ _).alloc (Nat.le_refl _) x)

theorem hset_drew {w : World} {s : Nat} {first : Option Addr} {fm : Int} {oth : Option Nat} {m : Nat} {cnt : Nat → Int} {age : Option Addr} {ks : List (Option Addr)} {v : Option Addr → Int × Int} (h : HSet w s first fm oth m cnt age ks v) : HSet w.drew s first fm oth m cnt age ks v :=
  h.below ((Below.refl _ _).drew)

theorem hset_put {w : World} {s : Nat} {first : Option Addr} {fm : Int} {o m : Nat} {cnt : Nat → Int} {age : Option Addr} {ks : List (Option Addr)} {v : Option Addr → Int × Int} (h : HSet w s first fm (some o) m cnt age ks v) (t : Option Addr) (ht : OkKey w t) (a b : Int) :
    HSet (mapPut w m t (.agg #[.int .u8 a, .int .i32 b])) s first fm (some o) m cnt age (ins ks t) (updv v t (a, b)) := by
  obtain ⟨hO, hM, hos⟩ := h.some o rfl
  have ne : ∀ {b n e} {g : Nat → Value}, RowAt w b e n g → b ≠ m := by
    intro b n e g hR heq
    subst heq
    obtain ⟨es, h1, _⟩ := hM.block
    obtain ⟨C, h2, _⟩ := hR
    rw [h1] at h2
    cases h2
  refine ⟨h.row.of_block (mapPut_other _ _ _ _ (ne h.row)), core_mapPut h.okf _ _ _, fun k hk => ?_, ?_, fun h => by cases h⟩
  · rcases mem_ins.1 hk with hk | rfl
    · exact core_mapPut (h.keys k hk) _ _ _
    · exact core_mapPut ht _ _ _
  · intro o' ho
    cases ho
    exact ⟨hO.of_block (mapPut_other _ _ _ _ (ne hO)), hM.put t a b, hos⟩

theorem putOther_any {w : World} {s : Nat} {first : Option Addr} {fm : Int} {oth : Option Nat} {m : Nat} {cnt : Nat → Int} {ks : List (Option Addr)} {v : Option Addr → Int × Int} (h : HSet w s first fm oth m cnt none ks v) (t : Option Addr) (ht : OkKey w t) (nm : Nat) (hn5 : nm ≤ 5)
    (hv : ∀ k, 0 ≤ (v k).1 ∧ (v k).1 ≤ 5) :
    Calls Yba.prog 19 #[.pointer (some ⟨s, 0, none⟩), .pointer t, .int .u8 nm] w fun e w' => e = .returned (.tuple #[]) ∧
      ∃ oth' m' cnt', HSet w' s first fm oth' m' cnt' none (ins ks t) (updv v t (nm, 0)) ∧ Turned w w' (OwnB s oth m) ∧ ∀ o, oth' = some o → ((oth = some o ∧ m' = m) ∨ (w.heap.size ≤ o ∧ w.heap.size ≤ m')) := by
  have hmm := @run_makeMap Yba.prog
  have c2 := h.row.cell (j := 2) (by omega)
  have f2 := h.row.frozen 2
  have hs := h.row.lt
  simp only [hsRow] at c2
  simp at c2
  go_enter Yba.func19, Yba.ntmps19
  go_upto_if 14 with fail
  go_cut [] (fun wc => Mid w s first fm oth m ks v t wc)
  case first =>
    cases ho : oth with
    | none =>
      subst ho
      simp at c2
      go_wp2
      go_meet
      case rel => exact mid_new h t ht
    | some o =>
      subst ho
      simp at c2
      go_wp2
      go_meet
      case rel => exact ⟨o, m, cnt, ht, h, Turned.refl _ _, .inl ⟨rfl, rfl⟩⟩
  case rest =>
    obtain ⟨wx, rfl⟩ : ∃ wx : World, wx = wc := ⟨_, rfl⟩
    obtain ⟨o, m', cnt', htc, hC, hTn, hor⟩ := hcut
    have HT : Hid (Turned w wx (OwnB s oth m) ∧ ((oth = some o ∧ m' = m) ∨ (w.heap.size ≤ o ∧ w.heap.size ≤ m'))) := ⟨hTn, hor⟩
    clear hTn hor c2 f2 hs hmm h ht
    have k2 := hC.row.cell (j := 2) (by omega)
    simp [hsRow] at k2
    obtain ⟨hO, hM, hos⟩ := hC.some o rfl
    have k0 := hO.cell (j := 0) (by omega)
    simp [ohRow] at k0
    have hol := hO.lt
    have hl := run_look wx hM hC.keys htc
    obtain ⟨bb, hbb⟩ : ∃ bb : Bool, decide (t ∈ ks) = bb := ⟨_, rfl⟩
    rw [hbb] at hl
    clear hbb
    obtain ⟨q, hq⟩ : ∃ q : Nat, (v t).1 = (q : Int) := ⟨(v t).1.toNat, by have := hv t; omega⟩
    have hq5 : q ≤ 5 := by have := hv t; omega
    have hqc := hO.cell (j := 1 + q) (by omega)
    have hqf := hO.frozen (1 + q)
    have e1 : ohRow m' cnt' none (1 + q) = .int .i64 (cnt' q) := by
      have h2 : 1 + q < 7 := by omega
      simp [ohRow, h2]
    rw [e1] at hqc
    clear e1
    have k7 := hO.cell (j := 7) (by omega)
    simp [ohRow] at k7
    go_upto_if 34 with fail
    go_cut [] (fun wd => Mid2 wx s first fm o m' ks v t wd)
    case first =>
      cases bb
      case true =>
        go_wp2_with fail
        go_region
        all_goals
          go_wp2_with fail
          go_meet
          case rel => exact ⟨_, core_alloc (core_setCell htc _ _) _, hset_drew (hset_alloc (hset_count hC q hq5 _) _), (((Turned.refl wx (fun b => b = o)).setCell ⟨o, 1 + q, none⟩ (.inl rfl) _).alloc _).drew⟩
      case false =>
        go_wp2_with fail
        go_meet
        case rel => exact ⟨cnt', core_alloc htc _, hset_alloc hC _, (Turned.refl _ _).alloc _⟩
    case rest =>
      obtain ⟨c2, htd, hD, hTd⟩ := hcut
      have HT2 : Hid (Turned wx wc (fun b => b = o)) := hTd
      clear hTd k2 k0 hol hl hqc hqf k7 hO hM
      obtain ⟨hO, hM, hos⟩ := hD.some o rfl
      have k0 := hO.cell (j := 0) (by omega)
      have k7 := hO.cell (j := 7) (by omega)
      simp [ohRow] at k0 k7
      have hol := hO.lt
      have hA := hset_alloc hD (.cells #[.int .u8 (nm : Int), .int .i32 0] 99)
      have hup := run_mapPut (wc.alloc (.cells #[.int .u8 (nm : Int), .int .i32 0] 99)).drew ((hA.some o rfl).2.1.of_block rfl) (hset_drew hA).keys (core_alloc htd _) (.agg #[.int .u8 (nm : Int), .int .i32 0])
      rw [mapPut_drew] at hup
      have hE := hset_put hA t (core_alloc htd _) (nm : Int) 0
      have hcc := (hE.some o rfl).1.cell (j := 1 + nm) (by omega)
      have hcf := (hE.some o rfl).1.frozen (1 + nm)
      have e1 : ohRow m' c2 none (1 + nm) = .int .i64 (c2 nm) := by
        have h2 : 1 + nm < 7 := by omega
        simp [ohRow, h2]
      rw [e1] at hcc
      clear e1
      have HE : Hid (HSet (mapPut (wc.alloc (.cells #[.int .u8 (nm : Int), .int .i32 0] 99)) m' t (.agg #[.int .u8 (nm : Int), .int .i32 0])) s first fm (some o) m' c2 none (ins ks t) (updv v t ((nm : Int), 0))) := hE
      clear hE hA hO hM
      go_wp2_with fail
      go_region
      all_goals
        go_wp2_with fail
        go_region
        all_goals
          go_end0
          obtain ⟨hT1, hor⟩ := HT.out
          have ho : OwnB s oth m o ∨ w.heap.size ≤ o := hor.elim (fun h => .inl (.inr ⟨o, h.1, .inl rfl⟩)) (fun h => .inr h.1)
          have hm' : OwnB s oth m m' ∨ w.heap.size ≤ m' := hor.elim (fun h => .inl (.inr ⟨o, h.1, .inr h.2⟩)) (fun h => .inr h.2)
          refine ⟨rfl, some o, m', _, hset_drew (hset_drew (hset_count HE.out nm hn5 _)), ?_, fun o' h => by cases h; exact hor⟩
          exact (((((hT1.trans (HT2.out.mono (fun i _ (h : i = o) => h ▸ ho))).alloc _).mapPut m' hm' _ _).setCell ⟨o, 1 + nm, none⟩ ho _).drew).drew

/-- The first holder behind a put. -/
def pF (first t : Option Addr) : Option Addr := if first = none then t else first
def pM (first : Option Addr) (fm : Int) (t : Option Addr) (nm : Int) : Int := if first = t ∨ first = none then nm else fm
def pK (first : Option Addr) (ks : List (Option Addr)) (t : Option Addr) : List (Option Addr) := if first = t ∨ first = none then ks else ins ks t
def pV (first : Option Addr) (v : Option Addr → Int × Int) (t : Option Addr) (nm : Int) : Option Addr → Int × Int := if first = t ∨ first = none then v else updv v t (nm, 0)

theorem hset_first {w : World} {s : Nat} {first : Option Addr} {fm : Int} {oth : Option Nat} {m : Nat} {cnt : Nat → Int} {age : Option Addr} {ks : List (Option Addr)} {v : Option Addr → Int × Int} (h : HSet w s first fm oth m cnt age ks v) (t : Option Addr) (ht : OkKey w t) (nm : Int) :
    HSet ((w.setCell ⟨s, 0, none⟩ (.pointer t)).setCell ⟨s, 1, none⟩ (.int .u8 nm)) s t nm oth m cnt age ks v := by
  refine ⟨?_, core_setCell (core_setCell ht _ _) _ _, fun k hk => core_setCell (core_setCell (h.keys k hk) _ _) _ _, ?_, h.none⟩
  · refine ((h.row.set 0 _ (by omega)).set 1 _ (by omega)).congr (fun i hi => ?_)
    have h : i = 0 ∨ i = 1 ∨ i = 2 := by omega
    rcases h with rfl | rfl | rfl <;> simp [upd, hsRow]
  · intro o ho
    obtain ⟨hO, hM, hos⟩ := h.some o ho
    have hms : m ≠ s := by
      intro e
      subst e
      obtain ⟨es, h1, _⟩ := hM.block
      obtain ⟨C, h2, _⟩ := h.row
      rw [h1] at h2
      cases h2
    exact ⟨(hO.other _ _ hos).other _ _ hos, (hM.of_block (Below.heap_setCell _ _ _ _ hms)).of_block (Below.heap_setCell _ _ _ _ hms), hos⟩

theorem put_any {w : World} {s : Nat} {first : Option Addr} {fm : Int} {oth : Option Nat} {m : Nat} {cnt : Nat → Int} {ks : List (Option Addr)} {v : Option Addr → Int × Int} (h : HSet w s first fm oth m cnt none ks v) (t : Option Addr) (ht : OkKey w t) (nm : Nat) (hn5 : nm ≤ 5)
    (hv : ∀ k, 0 ≤ (v k).1 ∧ (v k).1 ≤ 5) :
    Calls Yba.prog 11 #[.pointer (some ⟨s, 0, none⟩), .pointer t, .int .u8 nm] w fun e w' => e = .returned (.tuple #[]) ∧
      ∃ oth' m' cnt', HSet w' s (pF first t) (pM first fm t nm) oth' m' cnt' none (pK first ks t) (pV first v t nm) ∧ Turned w w' (OwnB s oth m) ∧ ∀ o, oth' = some o → ((oth = some o ∧ m' = m) ∨ (w.heap.size ≤ o ∧ w.heap.size ≤ m')) := by
  have c0 := h.row.cell (j := 0) (by omega)
  have c1 := h.row.cell (j := 1) (by omega)
  have f0 := h.row.frozen 0
  have f1 := h.row.frozen 1
  simp [hsRow] at c0 c1
  have heq := run_eql_keys w h.okf ht
  by_cases e : first = t ∨ first = none
  · have eF : pF first t = t := by
      rcases e with e | e
      · by_cases h : first = none <;> simp [pF, h, e]
      · simp [pF, e]
    have eM : pM first fm t nm = nm := by simp [pM, e]
    have eK : pK first ks t = ks := by simp [pK, e]
    have eV : pV first v t nm = v := by simp [pV, e]
    rw [eF, eM, eK, eV]
    have hst := hset_first h t ht (nm : Int)
    have fin : ∃ oth' m' cnt', HSet ((w.setCell ⟨s, 0, none⟩ (.pointer t)).setCell ⟨s, 1, none⟩ (.int .u8 (nm : Int))) s t (nm : Int) oth' m' cnt' none ks v ∧ Turned w ((w.setCell ⟨s, 0, none⟩ (.pointer t)).setCell ⟨s, 1, none⟩ (.int .u8 (nm : Int))) (OwnB s oth m) ∧ ∀ o, oth' = some o → ((oth = some o ∧ m' = m) ∨ (w.heap.size ≤ o ∧ w.heap.size ≤ m')) :=
      ⟨oth, m, cnt, hst, ((Turned.refl w (OwnB s oth m)).setCell ⟨s, 0, none⟩ (.inl (.inl rfl)) _).setCell ⟨s, 1, none⟩ (.inl (.inl rfl)) _, fun o ho => .inl ⟨ho, rfl⟩⟩
    clear eF eM eK eV hst
    by_cases e1 : first = t
    · have hd : decide (first = t) = true := by simpa using e1
      rw [hd] at heq
      clear hd e1 e
      go_enter Yba.func11, Yba.ntmps11
      go_wp2_with fail
      exact bodyPost_ret (v := .tuple #[]) (by simp [results, Yba.results11]) rfl ⟨rfl, fin⟩
    · have e2 : first = none := e.resolve_left e1
      have hd : decide (first = t) = false := by simpa using e1
      rw [hd] at heq
      subst e2
      clear hd e1 e
      go_enter Yba.func11, Yba.ntmps11
      go_wp2_with fail
      exact bodyPost_ret (v := .tuple #[]) (by simp [results, Yba.results11]) rfl ⟨rfl, fin⟩
  · have e1 : first ≠ t := fun h => e (.inl h)
    have e2 : first ≠ none := fun h => e (.inr h)
    have eF : pF first t = first := by simp [pF, e2]
    have eM : pM first fm t nm = fm := by simp [pM, e1, e2]
    have eK : pK first ks t = ins ks t := by simp [pK, e1, e2]
    have eV : pV first v t nm = updv v t ((nm : Int), 0) := by simp [pV, e1, e2]
    rw [eF, eM, eK, eV]
    clear eF eM eK eV
    have hd : decide (first = t) = false := by simpa using e1
    rw [hd] at heq
    obtain ⟨a, rfl⟩ : ∃ a, first = some a := by cases first with | none => exact absurd rfl e2 | some a => exact ⟨a, rfl⟩
    clear hd e1 e2 e
    go_enter Yba.func11, Yba.ntmps11
    go_wp2_with fail
    refine (putOther_any h t ht nm hn5 hv).mono ?_
    rintro e w' ⟨rfl, fin⟩
    go_wp2_with fail
    go_end0
    exact ⟨rfl, fin⟩

end Go.Proofs.Ybulkcrkq
