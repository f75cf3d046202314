/- LawS4672AMapped, walked. -/
import Derived.Test.YbulkcrssMem
import Derived.Test.YbulkcrssSpace
namespace Go.Proofs.Ybulkcrss
open Go.ChangeShapes Go.WideShapes Go.ChangeAt Go.RowKit
set_option maxHeartbeats 400000
set_option linter.unusedVariables false

theorem info5 : (Yba.prog.info? 5).map (fun i => (i.zero, i.size, i.bytes)) = some (some (.int .u8 0), 1, 1) := by kernel_rfl

theorem mk22 (len : Nat) (hl : len ≤ 4096) (w : World) : (Instr.makeSlice 22 (.int .i64 (len : Int)) (.int .i64 (len : Int))).run Yba.prog w = .ok (.slice (some ⟨w.heap.size, 0, none⟩) len len) (w.alloc (.cells (zeros (.int .u8 0) len) 5)) := by
  obtain ⟨i0, hi, hz0, hz1, hz2⟩ := info_parts info5
  have h := run_make (P := Yba.prog) w 22 5 i0 (.int .u8 0) Yba.underlying22 hi hz0 .i64 .i64 (len : Int) (len : Int) (by omega) (by omega) (by rw [hz2]; omega) (by omega)
  rw [h]
  simp [zeros, hz1, Value.cells]

/-- The eight bytes of the table. -/
def tab : Array Value := #[.int .u8 32, .int .u8 9, .int .u8 10, .int .u8 13, .int .u8 97, .int .u8 123, .int .u8 0, .int .u8 128]
def tabAt (j : Nat) : Int := [32, 9, 10, 13, 97, 123, 0, 128].getD j 0

theorem tab_row (w : World) : RowAt (w.alloc (.cells #[.int .u8 32, .int .u8 9, .int .u8 10, .int .u8 13, .int .u8 97, .int .u8 123, .int .u8 0, .int .u8 128] 27)) w.heap.size 27 8 (fun j => .int .u8 (tabAt j)) := by
  refine row_lit w _ 27 8 rfl _ (fun j hj => ?_)
  have h : j = 0 ∨ j = 1 ∨ j = 2 ∨ j = 3 ∨ j = 4 ∨ j = 5 ∨ j = 6 ∨ j = 7 := by omega
  rcases h with rfl | rfl | rfl | rfl | rfl | rfl | rfl | rfl <;> rfl

theorem mapped_in (a : Option Addr) (f : Nat → Int) (len cap : Nat) (k : Int) (w : World) (hl : len ≤ 4096) (hk0 : 0 ≤ k) (hk1 : k ≤ 65535) (hs : Shows .u8 f a len w) (hf : ∀ j, 0 ≤ f j ∧ f j ≤ 255) :
    Calls Yba.prog 4 #[.slice a len cap, .int .u16 k] w fun e w' => e = .returned (.bool true) ∧ Below w.heap.size w w' := by
  have hmk := mk22 len hl
  go_enter Yba.func4, Yba.ntmps4
  go_wp2_with fail
  clear hmk
  go_loopw [7] (fun t wr => ∃ (j : Nat) (g : Nat → Int), t = .int .i64 j ∧ j ≤ len ∧ RowAt wr w.heap.size 27 8 (fun j => .int .u8 (tabAt j)) ∧ RowAt wr (w.heap.size + 1) 5 len (fun i => .int .u8 (g i)) ∧ Below w.heap.size w wr) (fun t _ => len - (intOf t).toNat)
  case atStart =>
    refine ⟨0, fun _ => 0, rfl, Nat.zero_le _, (tab_row w).alloc _, ?_, ((Below.refl _ _).alloc (Nat.le_refl _) _).alloc (by simp) _⟩
    have h := row_made (w.alloc (.cells #[.int .u8 32, .int .u8 9, .int .u8 10, .int .u8 13, .int .u8 97, .int .u8 123, .int .u8 0, .int .u8 128] 27)) (.int .u8 0) len 5
    simpa using h
  case round =>
    obtain ⟨j, g, rfl, hj, hT, hR, hB⟩ := hrel
    by_cases hlt : j < len
    · rcases hs.below hB with hs | ⟨b, off, rfl, hb, hc⟩
      · omega
      · have hcc := hc j hlt
        have hfj := hf j
        have hm : (f j % 8).toNat < 8 := by omega
        have ht := hT.cell hm
        have hr := hR.cell hlt
        have hfr := hR.frozen j
        have R2 := hR.set j (.int .u8 (tabAt (f j % 8).toNat)) hlt
        have HR : Hid (RowAt (wr.setCell ⟨w.heap.size + 1, j, none⟩ (.int .u8 (tabAt (f j % 8).toNat))) (w.heap.size + 1) 5 len (upd (fun i => .int .u8 (g i)) j (.int .u8 (tabAt (f j % 8).toNat)))) := R2
        clear R2 hc
        go_wp2
        go_roundw
        case rel =>
          refine ⟨j + 1, fun i => if i = j then tabAt (f j % 8).toNat else g i, by go_num, by omega, hT.other _ _ (by simp), ?_, hB.setCell (by simp) _⟩
          refine HR.out.congr (fun i hi => ?_)
          by_cases e : i = j <;> simp [upd, e]
        case measure => simp [intOf]; omega
    · have hjl : j = len := by omega
      have hn : (k % (len + 2 : Int)) ≤ len + 1 := by have := Int.emod_lt_of_pos k (show (0 : Int) < len + 2 by omega); omega
      have hn0 : 0 ≤ (k % (len + 2 : Int)) := Int.emod_nonneg _ (by omega)
      have hby : Bytes g (some ⟨w.heap.size + 1, 0, none⟩) len wr := .inr ⟨_, _, rfl, fun i hi => by simpa using hR.cell hi⟩
      go_wp2_with fail
      refine (sp_any g _ len len _ wr hl (by omega) (by omega) hby).mono ?_
      rintro e w' ⟨⟨r, rfl, hsp⟩, rfl⟩
      go_wp2_with fail
      refine (chk_any g _ len len _ r _ hl hby hsp).mono ?_
      rintro e w' ⟨rfl, rfl⟩
      go_wp2_with fail
      go_ret
      exact ⟨rfl, hB⟩

theorem mapped_any (a : Option Addr) (f : Nat → Int) (len cap : Nat) (k : Int) (w : World) (hlen : len ≤ 9223372036854775807) (hk0 : 0 ≤ k) (hk1 : k ≤ 65535) (hs : Shows .u8 f a len w) (hf : ∀ j, 0 ≤ f j ∧ f j ≤ 255) :
    Calls Yba.prog 4 #[.slice a len cap, .int .u16 k] w fun e w' => e = .returned (.bool true) ∧ Below w.heap.size w w' := by
  by_cases h : len ≤ 4096
  · exact mapped_in a f len cap k w h hk0 hk1 hs hf
  · go_enter Yba.func4, Yba.ntmps4
    go_wp2_with fail
    go_ret
    exact ⟨rfl, Below.refl _ _⟩

end Go.Proofs.Ybulkcrss
