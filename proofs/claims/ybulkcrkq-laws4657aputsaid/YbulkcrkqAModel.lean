/- LawS4657AModel, out of its callees' contracts. -/
import Derived.Test.YbulkcrkqABuild
namespace Go.Proofs.Ybulkcrkq
open Go.ChangeShapes Go.WideShapes Go.ChangeAt Go.RowKit
set_option maxHeartbeats 400000
set_option maxRecDepth 20000
set_option linter.unusedVariables false

/-- 'mode' and the table answer alike. -/
theorem mode_tab {q fi t n ml : Nat} {kf mf : Nat → Int} {clamp has : Bool} {ks : List (Option Addr)} {v : Option Addr → Int × Int} (fm : Int) (h : Tab q kf mf ml clamp has n ks v) (ht : t < 5) (hf : fi < 5) :
    hMode (cp q fi) fm v (cp q t) = tMode fi t fm has kf mf ml clamp n ∧ hHolds (cp q fi) ks (cp q t) = tHolds fi t has kf n := by
  obtain ⟨a1, a2⟩ := h.2 t ht
  by_cases e : t = fi
  · subst e
    refine ⟨by simp [hMode, tMode], ?_⟩
    simp only [hHolds, tHolds, if_true]
    unfold cp
    by_cases h4 : t < 4
    · have : t ≠ 4 := by omega
      simp [h4, this]
    · have : t = 4 := by omega
      simp [this]
  · have hne : cp q fi ≠ cp q t := fun h' => e (cp_inj hf ht h').symm
    refine ⟨?_, ?_⟩
    · simp only [hMode, hne, if_false, tMode, e, a2]
    · simp only [hHolds, hne, if_false, tHolds, e, a1]

theorem arr_row (w : World) (q : Nat) : RowAt (w.alloc (.cells #[.pointer (some ⟨q, 0, none⟩), .pointer (some ⟨q + 1, 0, none⟩), .pointer (some ⟨q + 2, 0, none⟩), .pointer (some ⟨q + 3, 0, none⟩), .pointer none] 24)) w.heap.size 24 5 (fun t => .pointer (cp q t)) := by
  refine row_lit w _ 24 5 rfl _ (fun j hj => ?_)
  have h : j = 0 ∨ j = 1 ∨ j = 2 ∨ j = 3 ∨ j = 4 := by omega
  rcases h with rfl | rfl | rfl | rfl | rfl <;> rfl

theorem amodel_law (kf mf : Nat → Int) (ka : Option Addr) (n kc : Nat) (ma : Option Addr) (ml mc : Nat) (f0 fm : Int) (has : Bool) (w : World) (hn : n ≤ 9223372036854775807) (hml : ml ≤ 9223372036854775807) (hf0 : 0 ≤ f0) (hf1 : f0 ≤ 255)
    (hks : Shows .u8 kf ka n w) (hk : ∀ j, 0 ≤ kf j ∧ kf j ≤ 255) (hms : Shows .u8 mf ma ml w) (hm : ∀ j, 0 ≤ mf j ∧ mf j ≤ 255) :
    Calls Yba.prog 3 #[.int .u8 f0, .int .u8 fm, .bool has, .slice ka n kc, .slice ma ml mc] w fun e w' => e = .returned (.bool true) ∧ Below w.heap.size w w' := by
  by_cases hbig : n ≤ 1024
  · obtain ⟨fi, hfi⟩ : ∃ fi : Nat, f0 % 5 = (fi : Int) := ⟨(f0 % 5).toNat, by omega⟩
    have hfi5 : fi < 5 := by omega
    go_enter Yba.func3, Yba.ntmps3
    go_wp2_with fail
    refine (cores_any w).mono ?_
    rintro e w1 ⟨rfl, hC, hsz, hB1⟩
    go_wp2_with fail
    have hal := (hB1.alloc (by omega) (.cells #[.pointer (some ⟨w.heap.size + 2, 0, none⟩), .pointer (some ⟨w.heap.size + 2 + 1, 0, none⟩), .pointer (some ⟨w.heap.size + 2 + 2, 0, none⟩), .pointer (some ⟨w.heap.size + 2 + 3, 0, none⟩), .pointer none] 24))
    have hrow := arr_row w1 (w.heap.size + 2)
    rw [hsz] at hrow
    have hcor : Cores (w1.alloc (.cells #[.pointer (some ⟨w.heap.size + 2, 0, none⟩), .pointer (some ⟨w.heap.size + 2 + 1, 0, none⟩), .pointer (some ⟨w.heap.size + 2 + 2, 0, none⟩), .pointer (some ⟨w.heap.size + 2 + 3, 0, none⟩), .pointer none] 24)) (w.heap.size + 2) :=
      fun t ht => (hC t ht).of_block (Below.heap_alloc w1 _ _ (by omega))
    refine (build_any kf mf ka n kc ma ml mc (w.heap.size + 6) (w.heap.size + 2) fi fm has false _ hbig hml hfi5 (hks.below hal) hk (hms.below hal) hm hrow hcor (by simp; omega)).mono ?_
    rintro e w2 ⟨rfl, oth, m, cnt, ks, v, hH, hT, hB2, _⟩
    have hB := hal.trans (hB2.mono (by simp; omega))
    have hrow2 := hrow.below hB2 (by simp; omega)
    have hcor2 := hcor.below hB2 (by simp; omega)
    have hks2 := hks.below hB
    have hms2 := hms.below hB
    have hsz2 : w.heap.size ≤ w2.heap.size := hB.size
    clear hrow hcor hB1 hal hB2 hC hks hms
    simp only [World.size_alloc, hsz] at hH
    go_wp2_with fail
    go_loopw [15] (fun t wr => ∃ j : Nat, t = .int .i64 j ∧ j ≤ 5 ∧ Below w2.heap.size w2 wr) (fun t _ => 5 - (intOf t).toNat)
    case atStart => exact ⟨0, rfl, by omega, Below.refl _ _⟩
    case round =>
      obtain ⟨j, rfl, hj, hw⟩ := hrel
      by_cases hlt : j < 5
      · have hcc := (hrow2.below hw hrow2.lt).cell (j := j) (by omega)
        obtain ⟨e1, e2⟩ := mode_tab fm hT hlt hfi5
        go_wp2_with fail
        refine (mode_any (hH.below hw) (cp (w.heap.size + 2) j) ((hcor2.key j).below hw)).mono ?_
        rintro e w3 ⟨rfl, hw3⟩
        rw [e1, e2]
        have hw23 := hw.trans (hw3.mono hw.size)
        go_wp2_with fail
        refine (model_any kf mf ka n kc ma ml mc fi j fm has false w3 hbig hml hfi5 hlt (hks2.below hw23) hk (hms2.below hw23) hm).mono ?_
        rintro e w4 ⟨rfl, rfl⟩
        go_wp2_with fail
        go_roundw
        case rel => exact ⟨j + 1, by go_num, by omega, hw23⟩
        case measure => simp [intOf]; omega
      · go_wp2_with fail
        go_ret
        exact ⟨rfl, hB.trans (hw.mono hsz2)⟩
  · go_enter Yba.func3, Yba.ntmps3
    go_wp2_with fail
    go_ret
    exact ⟨rfl, Below.refl _ _⟩

end Go.Proofs.Ybulkcrkq
