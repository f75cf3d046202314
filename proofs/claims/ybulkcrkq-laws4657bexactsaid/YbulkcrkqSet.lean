/- The holder set: what it is in memory; mode. -/
import Derived.Test.YbulkcrkqCores
namespace Go.Proofs.Ybulkcrkq
open Go.ChangeShapes Go.WideShapes Go.ChangeAt Go.RowKit
set_option maxHeartbeats 400000

/-- The cells of a holderSet. -/
def hsRow (first : Option Addr) (fm : Int) (oth : Option Nat) (j : Nat) : Value :=
  if j = 0 then .pointer first else if j = 1 then .int .u8 fm else .pointer (oth.map fun o => ⟨o, 0, none⟩)

/-- The cells of an otherHolders. -/
def ohRow (m : Nat) (cnt : Nat → Int) (age : Option Addr) (j : Nat) : Value :=
  if j = 0 then .map (some m) else if j < 7 then .int .i64 (cnt (j - 1)) else .pointer age

/-- Block s is a holder set whose first holder is first, in mode fm; its others lie in block o with the map in block m; without others there are no keys. -/
structure HSet (w : World) (s : Nat) (first : Option Addr) (fm : Int) (oth : Option Nat) (m : Nat) (cnt : Nat → Int) (age : Option Addr) (ks : List (Option Addr)) (v : Option Addr → Int × Int) : Prop where
  row : RowAt w s 91 3 (hsRow first fm oth)
  okf : OkKey w first
  keys : ∀ k ∈ ks, OkKey w k
  some : ∀ o, oth = some o → RowAt w o 96 8 (ohRow m cnt age) ∧ MapIs w m ks v ∧ o ≠ s
  none : oth = none → ks = [] ∧ ∀ k, v k = (0, 0)

theorem OkKey.of_blocks {w w' : World} {k : Option Addr} (h : OkKey w k) (hb : ∀ (b : Nat) (C : Array Value), w.heap[b]? = some (Obj.cells C 88 (0, 0)) → ∃ C', w'.heap[b]? = some (Obj.cells C' 88 (0, 0))) : OkKey w' k := by
  cases k with
  | none => trivial
  | some a =>
    obtain ⟨b, C, rfl, h1⟩ := h
    obtain ⟨C', h2⟩ := hb b C h1
    exact ⟨b, C', rfl, h2⟩

theorem OkKey.below {w w' : World} {k : Option Addr} (h : OkKey w k) (hw : Below w.heap.size w w') : OkKey w' k :=
  h.of_blocks fun b C hb => ⟨C, by rw [hw.block b (Array.getElem?_eq_some_iff.1 hb).1]; exact hb⟩

theorem HSet.below {w w' : World} {s : Nat} {first : Option Addr} {fm : Int} {oth : Option Nat} {m : Nat} {cnt : Nat → Int} {age : Option Addr} {ks : List (Option Addr)} {v : Option Addr → Int × Int} (h : HSet w s first fm oth m cnt age ks v) (hw : Below w.heap.size w w') : HSet w' s first fm oth m cnt age ks v :=
  ⟨h.row.below hw h.row.lt, h.okf.below hw, fun k hk => (h.keys k hk).below hw,
    fun o ho => ⟨(h.some o ho).1.below hw (h.some o ho).1.lt, (h.some o ho).2.1.of_block (hw.block _ (h.some o ho).2.1.lt), (h.some o ho).2.2⟩, h.none⟩

/-- What 'mode' answers: the mode. -/
def hMode (first : Option Addr) (fm : Int) (v : Option Addr → Int × Int) (t : Option Addr) : Int := if first = t then fm else (v t).1
/-- .. whether it is held. -/
def hHolds (first : Option Addr) (ks : List (Option Addr)) (t : Option Addr) : Bool := if first = t then t.isSome else decide (t ∈ ks)

theorem mode_any {w : World} {s : Nat} {first : Option Addr} {fm : Int} {oth : Option Nat} {m : Nat} {cnt : Nat → Int} {age : Option Addr} {ks : List (Option Addr)} {v : Option Addr → Int × Int} (h : HSet w s first fm oth m cnt age ks v) (t : Option Addr) (ht : OkKey w t) :
    Calls Yba.prog 9 #[.pointer (some ⟨s, 0, none⟩), .pointer t] w fun e w' => e = .returned (.tuple #[.int .u8 (hMode first fm v t), .bool (hHolds first ks t)]) ∧ Below w.heap.size w w' := by
  have c0 := h.row.cell (j := 0) (by omega)
  have c1 := h.row.cell (j := 1) (by omega)
  have c2 := h.row.cell (j := 2) (by omega)
  simp [hsRow] at c0 c1 c2
  have heq := run_eql_keys w h.okf ht
  by_cases e : first = t
  · have hd : decide (first = t) = true := by simpa using e
    rw [hd] at heq
    have hm : hMode first fm v t = fm := by simp [hMode, e]
    have hh : hHolds first ks t = t.isSome := by simp [hHolds, e]
    rw [hm, hh]
    clear hm hh hd e
    go_enter Yba.func9, Yba.ntmps9
    go_wp2
    go_ret2
    exact ⟨rfl, Below.refl _ _⟩
  · have hd : decide (first = t) = false := by simpa using e
    rw [hd] at heq
    have hm : hMode first fm v t = (v t).1 := by simp [hMode, e]
    have hh : hHolds first ks t = decide (t ∈ ks) := by simp [hHolds, e]
    rw [hm, hh]
    clear hm hh hd e
    cases ho : oth with
    | none =>
      subst ho
      obtain ⟨rfl, hv⟩ := h.none rfl
      rw [hv t]
      go_enter Yba.func9, Yba.ntmps9
      go_wp2
      go_ret2
      exact ⟨by simp, Below.refl _ _⟩
    | some o =>
      subst ho
      obtain ⟨hr, hmap, _⟩ := h.some o rfl
      have d0 := hr.cell (j := 0) (by omega)
      simp [ohRow] at d0 c2
      have hl := run_look w hmap h.keys ht
      go_enter Yba.func9, Yba.ntmps9
      go_wp2
      go_ret2
      exact ⟨rfl, (Below.refl _ _).alloc (Nat.le_refl _) _⟩

end Go.Proofs.Ybulkcrkq
