/- The look's inner closure; the look at one list. -/
import Derived.Test.YbulkcrkqPlaces
namespace Go.Proofs.Ybulkcrkq
open Go.ChangeShapes Go.WideShapes Go.ChangeAt Go.RowKit
set_option maxHeartbeats 1000000
set_option maxRecDepth 20000
set_option linter.unusedVariables false

/-- What a look asks of the yield that it is given: J tells what has been yielded so far; Y: the blocks that a yield may write; M: the blocks that J looks at. -/
structure YieldOk (F : Nat) (caps : Array Value) (Y M : Nat → Prop) (go : List Nat → Bool) (Q : Nat → Prop) (J : List Nat → World → Prop) : Prop where
  call : ∀ l c w, J l w → Q c → c ∉ l → Calls Yba.prog F (#[.pointer (some ⟨c, 0, none⟩)] ++ caps) w fun e w' => e = .returned (.bool (go (l ++ [c]))) ∧ J (l ++ [c]) w' ∧ Turned w w' Y
  keep : ∀ l w w' T, J l w → Turned w w' T → (∀ b, M b → ¬ T b) → J l w'

theorem inner_any {F : Nat} {caps : Array Value} {Y M : Nat → Prop} {go : List Nat → Bool} {Q : Nat → Prop} {J : List Nat → World → Prop} (hF : F = 15 ∨ F = 17) (hY : YieldOk F caps Y M go Q J)
    (L p tb n cap C1 C2 i : Nat) (cs : Nat → Nat) (wd id : Nat → Int) (hi : i < n) (hn : n ≤ 400) (hw0 : wd i = 0) (w : World) (hL : ListAt w L p tb n cap cs wd id) (h1 : w.cell? ⟨C1, 0, none⟩ = some (.pointer (some ⟨L, p, none⟩))) (h2 : w.cell? ⟨C2, 0, none⟩ = some (.func (.func F) #[] caps)) (l : List Nat) (hJ : J l w) (hQ : Q (cs i)) (hnew : cs i ∉ l) :
    Calls Yba.prog 27 #[.int .i64 (i : Nat), .pointer (some ⟨C1, 0, none⟩), .pointer (some ⟨C2, 0, none⟩)] w fun e w' => e = .returned (.bool (go (l ++ [cs i]))) ∧ J (l ++ [cs i]) w' ∧ Turned w w' Y := by
  have k0 := hL.sl
  have k1 := hL.ts i hi
  have k2 := hL.wd i hi
  rw [hw0] at k2
  have hl := load_any (cs i) 35 0 w k2
  rw [show ((0 : Int) != 0) = false from rfl] at hl
  have hc := hY.call l (cs i) w hJ hQ hnew
  obtain ⟨c, hcs⟩ : ∃ c, c = cs i := ⟨_, rfl⟩
  rw [← hcs] at k1 k2 hl hc ⊢
  clear hL hw0 hQ hnew hcs hJ
  rcases hF with rfl | rfl
  · go_enter Yba.func27, Yba.ntmps27
    go_wp2_with first | (go_at_call 23; refine hl.mono ?_; rintro e w' ⟨rfl, rfl⟩) | (go_at_call 15; refine hc.mono ?_; rintro e w' ⟨rfl, hJ, hT⟩)
    go_ret
    exact ⟨rfl, hJ, hT⟩
  · go_enter Yba.func27, Yba.ntmps27
    go_wp2_with first | (go_at_call 23; refine hl.mono ?_; rintro e w' ⟨rfl, rfl⟩) | (go_at_call 17; refine hc.mono ?_; rintro e w' ⟨rfl, hJ, hT⟩)
    go_ret
    exact ⟨rfl, hJ, hT⟩
end Go.Proofs.Ybulkcrkq
