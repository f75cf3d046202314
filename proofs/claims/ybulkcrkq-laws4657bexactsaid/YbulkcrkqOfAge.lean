/- ofAge; the empty look; one more at the back of a row of modes. -/
import Derived.Test.YbulkcrkqGoing
namespace Go.Proofs.Ybulkcrkq
open Go.ChangeShapes Go.WideShapes Go.ChangeAt Go.RowKit
set_option maxHeartbeats 1000000
set_option maxRecDepth 20000
set_option linter.unusedVariables false

theorem ofAge14 (s : Nat) (set q : Int) (older : Bool) (w : World) :
    Calls Yba.prog 14 #[.pointer (some ⟨s, 0, none⟩), .int .u8 set, .int .u64 q, .bool older] w fun e w' => e = .returned (.func (.func 22) #[] #[.pointer (some ⟨w.heap.size, 0, none⟩), .pointer (some ⟨w.heap.size + 3, 0, none⟩), .pointer (some ⟨w.heap.size + 2, 0, none⟩), .pointer (some ⟨w.heap.size + 1, 0, none⟩)]) ∧
      (((w.alloc (.cells #[.pointer (some ⟨s, 0, none⟩)] 27)).alloc (.cells #[.int .u8 set] 41)).alloc (.cells #[.int .u64 q] 42)).alloc (.cells #[.bool older] 4) = w' := by
  go_enter Yba.func14, Yba.ntmps14
  go_wp2_with fail
  go_ret
  exact ⟨rfl, rfl⟩

theorem seq_empty (F : Nat) (caps : Array Value) (S1 S2 S3 S4 s : Nat) (w : World) (a1 : w.cell? ⟨S1, 0, none⟩ = some (.pointer (some ⟨s, 0, none⟩))) (r0 : w.cell? ⟨s, 0, none⟩ = some (.pointer none)) :
    Calls Yba.prog 22 #[.func (.func F) #[] caps, .pointer (some ⟨S1, 0, none⟩), .pointer (some ⟨S2, 0, none⟩), .pointer (some ⟨S3, 0, none⟩), .pointer (some ⟨S4, 0, none⟩)] w fun e w' => e = .returned (.tuple #[]) ∧ Turned w w' (fun _ => False) := by
  have b1 := World.block_lt_of_cell? w _ a1
  have b2 := World.block_lt_of_cell? w _ r0
  simp only at b1 b2
  go_enter Yba.func22, Yba.ntmps22
  go_wp2_with fail
  exact bodyPost_ret (v := .tuple #[]) (by simp [results, Yba.results22]) rfl ⟨rfl, (Turned.refl _ _).alloc _⟩

theorem info26 : (Yba.prog.info? 26).map (fun i => (i.zero, i.size, i.bytes)) = some (some (.int .u8 0), 1, 1) := by kernel_rfl

theorem appendMode (w : World) (base : Nat) (v : Value) (n : Nat) (xs : List Value) (hn : n ≤ 1024) (ho : w.ownsRow base 26 1 v n xs) (hb : base ≤ w.heap.size) (g : Nat) (x : Int) (hc : w.cell? ⟨g, 0, none⟩ = some (.int .u8 x)) :
    ∃ v' w', (∀ ty, (Builtin.append_ #[38, 38] ty #[v, .slice (some ⟨g, 0, none⟩) 1 1]).run Yba.prog w = .ok v' w') ∧ w'.ownsRow base 26 1 v' (n + 1) (xs ++ [.int .u8 x]) ∧ Turned w w' (fun b => v.ownBlock = some b) := by
  obtain ⟨i, e1, e⟩ := Option.map_eq_some_iff.1 info26
  simp only [Prod.mk.injEq] at e
  obtain ⟨e2, e3, e4⟩ := e
  have hnews := cell_add0 w g _ hc
  obtain ⟨v', w', hr, ho', hg, _⟩ := run_append_own (P := Yba.prog) w base 38 0 26 i (.int .u8 0) 1 1 Yba.underlying38 e1 e2 e3 e4 rfl (by omega) v n xs ho ⟨g, 0, none⟩ 1 1 [.int .u8 x] rfl hnews (by simp [Value.oneCell']) (by unfold maxLen; omega) (by omega) hb
  have hT : Turned w w' (fun b => v.ownBlock = some b) := ⟨hg.os, hg.tape, hg.output, hg.size, fun b hb' hne => hg.block b hb' (fun h => hne h.symm)⟩
  refine ⟨v', w', fun ty => ?_, ho', hT⟩
  exact hr
end Go.Proofs.Ybulkcrkq
