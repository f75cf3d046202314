/- zzs4672bpasses, down and passes compute 'onL'. -/
import Derived.Test.YbulkcrssMem
import Derived.Test.YbulkcrssLine
import Derived.RegionTactic
import Derived.BigRegion
import Derived.Deep.QuietTactic
import Derived.BigQuiet
namespace Go.Proofs.Ybulkcrss
open Go.ChangeShapes Go.WideShapes Go.ChangeAt Go.RowKit
set_option maxHeartbeats 400000
set_option maxRecDepth 20000
set_option linter.unusedVariables false

/-- The jump of x. -/
def jp (bl : Nat → Int) (x : Nat) : Int := if bl x < 0 then x else bl x

theorem ret_bool {a b : Bool} (h : a = b) : Ending.returned (.bool a) = .returned (.bool b) := by rw [h]

theorem ret_i32 {a b : Nat} (h : a = b) : Ending.returned (.int .i32 (a : Int)) = .returned (.int .i32 (b : Int)) := by rw [h]

theorem bpasses_any (bl : Nat → Int) (hd : Down bl) (bb n cap top i : Nat) (w : World) (hn : n ≤ 1024) (ht : top < n) (hi : i < n) (hr : RowAt w bb 21 n (fun x => .int .i32 (bl x))) :
    Calls Yba.prog 16 #[.slice (some ⟨bb, 0, none⟩) n cap, .int .i64 top, .int .i64 i] w fun e w' => e = .returned (.bool (onL bl top i)) ∧ w' = w := by
  go_enter Yba.func16, Yba.ntmps16
  go_wp2_with fail
  go_loop [7] (fun t => (∃ x : Nat, t = .int .i64 x ∧ x < n ∧ onL bl x i = onL bl top i) ∨ (t = .int .i64 (-1) ∧ onL bl top i = false)) (fun t => (intOf t + 1).toNat)
  case atStart => exact .inl ⟨top, rfl, ht, rfl⟩
  case round =>
    rcases hrel with ⟨x, rfl, hx, he⟩ | ⟨rfl, he⟩
    · have HE : Hid (onL bl x i = onL bl top i) := he
      clear he
      have hc := hr.cell hx
      by_cases hxi : x = i
      · subst hxi
        go_wp2_with fail
        go_ret
        exact ⟨ret_bool (by rw [← HE.out, onL_self]), rfl⟩
      · have hb : ((x : Int) == (i : Int)) = false := by simp; omega
        have hdx := hd x
        by_cases hf : bl x < 0
        · have e1 : bl x = -1 := by omega
          have HF : Hid (onL bl x i = false) := onL_foot hf hxi
          rw [e1] at hc
          clear e1 hf hdx
          go_wp2_with fail
          go_round
          case rel => exact .inr ⟨rfl, by rw [← HE.out, HF.out]⟩
          case measure => simp [intOf]
        · obtain ⟨b, hbx⟩ : ∃ b : Nat, bl x = (b : Int) := ⟨(bl x).toNat, by omega⟩
          have HS : Hid (onL bl x i = onL bl b i) := onL_step hd hbx hxi
          have hbl : b < x := by omega
          rw [hbx] at hc
          clear hbx hf hdx
          go_wp2_with fail
          go_round
          case rel => exact .inl ⟨b, rfl, by omega, by rw [← HS.out, HE.out]⟩
          case measure => simp [intOf]; omega
    · have HE : Hid (onL bl top i = false) := he
      clear he
      go_wp2_with fail
      go_ret
      exact ⟨ret_bool HE.out.symm, rfl⟩

/-- The three arrays of a keyLines at (lb, lo). -/
structure Lines (w : World) (bl : Nat → Int) (lb lo bb db jb n : Nat) : Prop where
  c0 : w.cell? ⟨lb, lo, none⟩ = some (.slice (some ⟨bb, 0, none⟩) n n)
  c1 : w.cell? ⟨lb, lo + 1, none⟩ = some (.slice (some ⟨db, 0, none⟩) n n)
  c2 : w.cell? ⟨lb, lo + 2, none⟩ = some (.slice (some ⟨jb, 0, none⟩) n n)
  below : RowAt w bb 21 n (fun x => .int .i32 (bl x))
  depth : RowAt w db 21 n (fun x => .int .i32 (dp bl x))
  jump : RowAt w jb 21 n (fun x => .int .i32 (jp bl x))

theorem heap_drewN (w : World) (k : Nat) : (w.drewN k).heap = w.heap := by
  induction k with
  | zero => rfl
  | succ k ih => first | exact ih | rfl

theorem Lines.of_heap {w w' : World} {bl : Nat → Int} {lb lo bb db jb n : Nat} (h : Lines w bl lb lo bb db jb n) (e : w'.heap = w.heap) : Lines w' bl lb lo bb db jb n :=
  ⟨by unfold World.cell?; rw [e]; exact h.c0, by unfold World.cell?; rw [e]; exact h.c1, by unfold World.cell?; rw [e]; exact h.c2,
    h.below.of_block (by rw [e]), h.depth.of_block (by rw [e]), h.jump.of_block (by rw [e])⟩

theorem Lines.below' {w w' : World} {bl : Nat → Int} {lb lo bb db jb n : Nat} (h : Lines w bl lb lo bb db jb n) (hw : Below w.heap.size w w') (hlb : lb < w.heap.size) : Lines w' bl lb lo bb db jb n :=
  ⟨(hw.cell (p := ⟨lb, lo, none⟩) hlb).trans h.c0, (hw.cell (p := ⟨lb, lo + 1, none⟩) hlb).trans h.c1, (hw.cell (p := ⟨lb, lo + 2, none⟩) hlb).trans h.c2,
    h.below.below hw h.below.lt, h.depth.below hw h.depth.lt, h.jump.below hw h.jump.lt⟩

theorem down_any (bl : Nat → Int) (hd : Down bl) (lb lo bb db jb n top d : Nat) (w : World) (hn : n ≤ 1024) (ht : top < n) (hdn : d ≤ 1024) (hL : Lines w bl lb lo bb db jb n) :
    Calls Yba.prog 18 #[.pointer (some ⟨lb, lo, none⟩), .int .i32 top, .int .i32 d] w fun e w' => e = .returned (.int .i32 (dn bl d top)) ∧ ∃ k, w' = w.drewN k := by
  have c0 := hL.c0
  have c1 := hL.c1
  have c2 := hL.c2
  go_enter Yba.func18, Yba.ntmps18
  go_wp2_with fail
  go_loopw [1] (fun t wr => (∃ k, wr = w.drewN k) ∧ ∃ x : Nat, t = .int .i32 x ∧ x < n ∧ dn bl d x = dn bl d top) (fun t _ => (intOf t).toNat)
  case atStart => exact ⟨⟨0, rfl⟩, top, rfl, ht, rfl⟩
  case round =>
    obtain ⟨⟨k, rfl⟩, x, rfl, hx, he⟩ := hrel
    have HE : Hid (dn bl d x = dn bl d top) := he
    clear he
    have hcd := hL.depth.cell hx
    have hcj := hL.jump.cell hx
    by_cases hgt : d < dp bl x
    · have hf : ¬ bl x < 0 := fun h => by have := dp_foot h; omega
      have hdx := hd x
      obtain ⟨b, hbx⟩ : ∃ b : Nat, bl x = (b : Int) := ⟨(bl x).toNat, by omega⟩
      have HS : Hid (dn bl d x = dn bl d b) := dn_step hd hbx hgt
      have hds := dp_step hd hbx
      have hlt : b < x := by omega
      have hj : jp bl x = (b : Int) := by rw [jp, if_neg hf, hbx]
      rw [hj] at hcj
      have hcb := hL.depth.cell (j := b) (by omega)
      have hge : d ≤ dp bl b := by omega
      clear hj hbx hf hdx hds
      go_wp2_with fail
      go_quiet (fail)
      go_wp2_with fail
      go_roundw
      case rel => exact ⟨⟨_, rfl⟩, b, rfl, by omega, by rw [← HS.out, HE.out]⟩
      case measure => simp [intOf]; omega
    · have HD : Hid (dn bl d x = x) := dn_at (by omega)
      go_wp2_with fail
      go_ret
      exact ⟨ret_i32 (by rw [← HE.out, HD.out]), k, rfl⟩

theorem passes_any (bl : Nat → Int) (hd : Down bl) (lb lo bb db jb n top i : Nat) (w : World) (hn : n ≤ 1024) (ht : top < n) (hi : i < n) (hL : Lines w bl lb lo bb db jb n) :
    Calls Yba.prog 17 #[.pointer (some ⟨lb, lo, none⟩), .int .i64 top, .int .i64 i] w fun e w' => e = .returned (.bool (onL bl top i)) ∧ ∃ k, w' = w.drewN k := by
  have c0 := hL.c0
  have c1 := hL.c1
  have c2 := hL.c2
  have hci := hL.depth.cell hi
  have hct := hL.depth.cell ht
  have hdi := dp_le hd i
  have hdt := dp_le hd top
  by_cases hle : dp bl i ≤ dp bl top
  · have HO : Hid (decide (dn bl (dp bl i) top = i) = onL bl top i) := dn_on hd i top hle
    have hdl := dn_lt hd (dp bl i) top
    have hdown := fun w' hL' => down_any bl hd lb lo bb db jb n top (dp bl i) w' hn ht (by omega) hL'
    have hLd : ∀ k, Lines (w.drewN k) bl lb lo bb db jb n := fun k => hL.of_heap (heap_drewN w k)
    go_enter Yba.func17, Yba.ntmps17
    go_wp2_with fail
    go_quiet ((go_at_call 18; exact Calls.quiet_of (hdown _ (hLd _))))
    go_wp2_with fail
    go_ret
    exact ⟨ret_bool (by rw [← HO.out, Bool.eq_iff_iff]; simp; omega), _, rfl⟩
  · have hlt : dp bl top < dp bl i := by omega
    have hb : decide ((dp bl i : Int) ≤ (dp bl top : Int)) = false := by simp; omega
    have HO : Hid (onL bl top i = false) := onL_no hd i top (by intro e; subst e; omega) (by omega)
    go_enter Yba.func17, Yba.ntmps17
    go_wp2_with fail
    go_quiet (fail)
    go_wp2_with fail
    go_ret
    exact ⟨ret_bool HO.out.symm, _, rfl⟩

end Go.Proofs.Ybulkcrss
