/- The look at one list of holders by age: the walk. -/
import Derived.Test.YbulkcrkqLook
namespace Go.Proofs.Ybulkcrkq
open Go.ChangeShapes Go.WideShapes Go.ChangeAt Go.RowKit
set_option maxHeartbeats 1000000
set_option maxRecDepth 20000
set_option linter.unusedVariables false

theorem nodes_nil (a : Option Addr) (n c : Nat) (w : World) : (binOp .eql 108 (.slice a n c) (.slice none 0 0)).run Yba.prog w = .ok (.bool a.isNone) w := Lib.run_eql_slice_nil w 108 128 a n c 0 0 Yba.underlying108

theorem ofAge25_new (L p n B : Nat) (q : Int) (older : Bool) (ids : Value) (c1 c2 : Value) (hn1 : 1 ≤ n) (hn : n ≤ 400) (w : World) (hB : B = w.heap.size)
    (t0 : w.cell? ⟨L, p + 1, none⟩ = some (.slice none 0 0)) (P : Bool → World → Prop)
    (hl : Calls Yba.prog 34 #[.pointer (some ⟨L, p + 1, none⟩), .int .i64 (n : Nat), ids] (w.alloc (.cells #[.int .u64 q] 42)) fun e w4 => e = .returned (.tuple #[]) ∧ ∃ sz bs : Nat, sz ≤ 4096 ∧ bs ≤ 4096 ∧ w4.cell? ⟨L, p + 1 + 1, none⟩ = some (.int .i64 (sz : Nat)) ∧ w4.cell? ⟨L, p + 1 + 2, none⟩ = some (.int .i64 (bs : Nat)) ∧
      Calls Yba.prog 37 #[.pointer (some ⟨L, p + 1, none⟩), .int .i64 1, .int .i64 0, .int .i64 (sz : Nat), .int .i64 (bs : Nat), .int .i64 ((bs : Int) + n), holdsV older B, .func (.func 27) #[] #[c1, c2]] w4.drew fun e w' => ∃ b, e = .returned (.bool b) ∧ P b w') :
    Calls Yba.prog 25 #[.pointer (some ⟨L, p + 1, none⟩), .int .i64 (n : Nat), ids, .int .i64 0, .int .i64 (n : Nat), .int .u64 q, .bool older, .func (.func 27) #[] #[c1, c2]] w fun e w' => ∃ b, e = .returned (.bool b) ∧ P b w' := by
  subst hB
  have qn := nodes_nil none 0 0
  simp only [Option.isNone] at qn
  have hLl := World.block_lt_of_cell? w _ t0
  simp only at hLl
  have hl2 : Calls Yba.prog 34 #[.pointer (some ⟨L, p + 1, none⟩), .int .i64 (n : Nat), ids] (w.alloc (.cells #[.int .u64 q] 42)) fun e w4 => e = .returned (.tuple #[]) ∧ ∃ sz bs : Nat, sz ≤ 4096 ∧ bs ≤ 4096 ∧ w4.drew.cell? ⟨L, p + 1 + 1, none⟩ = some (.int .i64 (sz : Nat)) ∧ w4.drew.cell? ⟨L, p + 1 + 2, none⟩ = some (.int .i64 (bs : Nat)) ∧
      Calls Yba.prog 37 #[.pointer (some ⟨L, p + 1, none⟩), .int .i64 1, .int .i64 0, .int .i64 (sz : Nat), .int .i64 (IntKind.i64.wrap (bs : Int)), .int .i64 (IntKind.i64.wrap ((bs : Int) + n)), holdsV older w.heap.size, .func (.func 27) #[] #[c1, c2]] w4.drew fun e w' => ∃ b, e = .returned (.bool b) ∧ P b w' := by
    refine hl.mono ?_
    rintro e w4 ⟨rfl, sz, bs, h1, h2, h3, h4, hc⟩
    have e1 : IntKind.i64.wrap (bs : Int) = bs := by rw [IntKind.wrap_i64]; omega
    have e2 : IntKind.i64.wrap ((bs : Int) + n) = (bs : Int) + n := by rw [IntKind.wrap_i64]; omega
    refine ⟨rfl, sz, bs, h1, h2, h3, h4, ?_⟩
    rw [e1, e2]
    exact hc
  clear hl
  cases older
  · simp only [holdsV, Bool.false_eq_true, if_false] at hl2
    go_enter Yba.func25, Yba.ntmps25
    go_upto_region 8 with (go_at_call 34; refine hl2.mono ?_; rintro e w4 ⟨rfl, sz, bs, hs1, hs2, d1, d2, hc⟩)
    go_region_with (go_at_call 37; refine hc.mono ?_; rintro e w' ⟨b, rfl, hJ⟩)
    all_goals
      go_wp2_with fail
      go_ret
      exact ⟨b, rfl, hJ⟩
  · simp only [holdsV, if_true] at hl2
    go_enter Yba.func25, Yba.ntmps25
    go_upto_region 8 with (go_at_call 34; refine hl2.mono ?_; rintro e w4 ⟨rfl, sz, bs, hs1, hs2, d1, d2, hc⟩)
    go_region_with (go_at_call 37; refine hc.mono ?_; rintro e w' ⟨b, rfl, hJ⟩)
    all_goals
      go_wp2_with fail
      go_ret
      exact ⟨b, rfl, hJ⟩
theorem ofAge25_laid (L p n B N n2 sz bs : Nat) (q : Int) (older : Bool) (ids : Value) (c1 c2 : Value) (hn1 : 1 ≤ n) (hn : n ≤ 400) (hsz : sz ≤ 4096) (hbs : bs ≤ 4096) (w w4 : World) (hB : B = w.heap.size) (hw4 : w4 = w.alloc (.cells #[.int .u64 q] 42))
    (t0 : w4.cell? ⟨L, p + 1, none⟩ = some (.slice (some ⟨N, 0, none⟩) n2 n2)) (t1 : w4.cell? ⟨L, p + 1 + 1, none⟩ = some (.int .i64 (sz : Nat))) (t2 : w4.cell? ⟨L, p + 1 + 2, none⟩ = some (.int .i64 (bs : Nat)))
    (b : Bool) (J : World → Prop) (hc : Calls Yba.prog 37 #[.pointer (some ⟨L, p + 1, none⟩), .int .i64 1, .int .i64 0, .int .i64 (sz : Nat), .int .i64 (bs : Nat), .int .i64 ((bs : Int) + n), holdsV older B, .func (.func 27) #[] #[c1, c2]] w4.drew fun e w' => e = .returned (.bool b) ∧ J w') :
    Calls Yba.prog 25 #[.pointer (some ⟨L, p + 1, none⟩), .int .i64 (n : Nat), ids, .int .i64 0, .int .i64 (n : Nat), .int .u64 q, .bool older, .func (.func 27) #[] #[c1, c2]] w fun e w' => e = .returned (.bool b) ∧ J w' := by
  subst hw4 hB
  have qn := nodes_nil (some ⟨N, 0, none⟩) n2 n2
  simp only [Option.isNone] at qn
  have e1 : IntKind.i64.wrap (bs : Int) = bs := by rw [IntKind.wrap_i64]; omega
  have e2 : IntKind.i64.wrap ((bs : Int) + n) = (bs : Int) + n := by rw [IntKind.wrap_i64]; omega
  have hc' : Calls Yba.prog 37 #[.pointer (some ⟨L, p + 1, none⟩), .int .i64 1, .int .i64 0, .int .i64 (sz : Nat), .int .i64 (IntKind.i64.wrap (bs : Int)), .int .i64 (IntKind.i64.wrap ((bs : Int) + n)), holdsV older w.heap.size, .func (.func 27) #[] #[c1, c2]] (w.alloc (.cells #[.int .u64 q] 42)).drew fun e w' => e = .returned (.bool b) ∧ J w' := by
    rw [e1, e2]
    exact hc
  clear e1 e2 hc
  cases older
  · simp only [holdsV, Bool.false_eq_true, if_false] at hc'
    go_enter Yba.func25, Yba.ntmps25
    go_upto_region 8 with fail
    go_region_with (go_at_call 37; refine hc'.mono ?_; rintro e w' ⟨rfl, hJ⟩)
    all_goals
      go_wp2_with fail
      go_ret
      exact ⟨rfl, hJ⟩
  · simp only [holdsV, if_true] at hc'
    go_enter Yba.func25, Yba.ntmps25
    go_upto_region 8 with fail
    go_region_with (go_at_call 37; refine hc'.mono ?_; rintro e w' ⟨rfl, hJ⟩)
    all_goals
      go_wp2_with fail
      go_ret
      exact ⟨rfl, hJ⟩
end Go.Proofs.Ybulkcrkq
