/- LawS4657APut, out of its callees' contracts. -/
import Derived.Test.YbulkcrkqAModel
import Derived.Test.YbulkcrkqPut
namespace Go.Proofs.Ybulkcrkq
open Go.ChangeShapes Go.WideShapes Go.ChangeAt Go.RowKit
set_option maxHeartbeats 400000
set_option maxRecDepth 20000
set_option linter.unusedVariables false

theorem hset_bd {w : World} {s : Nat} {first : Option Addr} {fm : Int} {oth : Option Nat} {m : Nat} {cnt : Nat → Int} {age : Option Addr} {ks : List (Option Addr)} {v : Option Addr → Int × Int} (h : HSet w s first fm oth m cnt age ks v)
    {q n ml : Nat} {kf mf : Nat → Int} {has : Bool} (hT : Tab q kf mf ml true has n ks v) (hm : ∀ j, 0 ≤ mf j ∧ mf j ≤ 255) (k : Option Addr) : 0 ≤ (v k).1 ∧ (v k).1 ≤ 5 := by
  by_cases hk : k ∈ ks
  · obtain ⟨t, ht, rfl⟩ := hT.1 k hk
    rw [(hT.2 t ht).2]
    have := lst_clamp (kf := kf) hm ml t n
    split <;> omega
  · have : v k = (0, 0) := by
      cases oth with
      | none => exact (h.none rfl).2 k
      | some o => exact (h.some o rfl).2.1.out k hk
    rw [this]
    simp

theorem put_self (first t : Option Addr) (fm : Int) (nm : Int) (ks : List (Option Addr)) (v : Option Addr → Int × Int) (ht : t.isSome = true) :
    hMode (pF first t) (pM first fm t nm) (pV first v t nm) t = nm ∧ hHolds (pF first t) (pK first ks t) t = true := by
  by_cases e : first = t ∨ first = none
  · have eF : pF first t = t := by
      rcases e with e | e
      · by_cases h : first = none <;> simp [pF, h, e]
      · simp [pF, e]
    simp [hMode, hHolds, eF, pM, e, ht]
  · have e1 : first ≠ t := fun h => e (.inl h)
    have e2 : first ≠ none := fun h => e (.inr h)
    simp [hMode, hHolds, pF, pK, pV, e1, e2, updv, mem_ins]

theorem put_other (first t r : Option Addr) (fm : Int) (nm : Int) (ks : List (Option Addr)) (v : Option Addr → Int × Int) (hr : r.isSome = true) (hne : r ≠ t) :
    hMode (pF first t) (pM first fm t nm) (pV first v t nm) r = hMode first fm v r ∧ hHolds (pF first t) (pK first ks t) r = hHolds first ks r := by
  have hrn : r ≠ none := by intro h; subst h; cases hr
  by_cases e : first = t ∨ first = none
  · have eF : pF first t = t := by
      rcases e with e | e
      · by_cases h : first = none <;> simp [pF, h, e]
      · simp [pF, e]
    have e1 : ¬ t = r := fun h => hne h.symm
    have e2 : ¬ first = r := by
      rcases e with e | e
      · rw [e]; exact e1
      · rw [e]; exact fun h => hrn h.symm
    simp only [hMode, hHolds, eF, e1, if_false, e2, pV, pK, e, if_true]
    exact ⟨trivial, trivial⟩
  · have e1 : first ≠ t := fun h => e (.inl h)
    have e2 : first ≠ none := fun h => e (.inr h)
    simp [hMode, hHolds, pF, pM, pK, pV, e1, e2, updv, mem_ins, hne]

theorem cp_some {q t : Nat} (h : t < 4) : (cp q t).isSome = true := by simp [cp, h]

theorem aput_law (kf mf : Nat → Int) (ka : Option Addr) (n kc : Nat) (ma : Option Addr) (ml mc : Nat) (f0 f1 t0 m0 : Int) (has : Bool) (w : World) (hn : n ≤ 9223372036854775807) (hml : ml ≤ 9223372036854775807) (hf0 : 0 ≤ f0 ∧ f0 ≤ 255) (hf1 : 0 ≤ f1 ∧ f1 ≤ 255) (ht0 : 0 ≤ t0 ∧ t0 ≤ 255) (hm0 : 0 ≤ m0 ∧ m0 ≤ 255)
    (hks : Shows .u8 kf ka n w) (hk : ∀ j, 0 ≤ kf j ∧ kf j ≤ 255) (hms : Shows .u8 mf ma ml w) (hm : ∀ j, 0 ≤ mf j ∧ mf j ≤ 255) :
    Calls Yba.prog 4 #[.int .u8 f0, .int .u8 f1, .bool has, .slice ka n kc, .slice ma ml mc, .int .u8 t0, .int .u8 m0] w fun e w' => e = .returned (.bool true) ∧ Below w.heap.size w w' := by
  obtain ⟨hf01, hf02⟩ := hf0
  obtain ⟨hf11, hf12⟩ := hf1
  obtain ⟨ht01, ht02⟩ := ht0
  obtain ⟨hm01, hm02⟩ := hm0
  by_cases hbig : n ≤ 1024
  · obtain ⟨fi, hfi⟩ : ∃ fi : Nat, f0 % 5 = (fi : Int) := ⟨(f0 % 5).toNat, by omega⟩
    obtain ⟨fm, hfm⟩ : ∃ fm : Nat, 1 + f1 % 5 = (fm : Int) := ⟨(1 + f1 % 5).toNat, by omega⟩
    obtain ⟨ti, hti⟩ : ∃ ti : Nat, t0 % 4 = (ti : Int) := ⟨(t0 % 4).toNat, by omega⟩
    obtain ⟨nm, hnm⟩ : ∃ nm : Nat, 1 + m0 % 5 = (nm : Int) := ⟨(1 + m0 % 5).toNat, by omega⟩
    have hfi5 : fi < 5 := by omega
    have hti4 : ti < 4 := by omega
    have hnm5 : nm ≤ 5 := by omega
    go_enter Yba.func4, Yba.ntmps4
    go_wp2_with fail
    refine (cores_any w).mono ?_
    rintro e w1 ⟨rfl, hC, hsz, hB1⟩
    go_wp2_with fail
    have hal := (hB1.alloc (by omega) (.cells #[.pointer (some ⟨w.heap.size + 2, 0, none⟩), .pointer (some ⟨w.heap.size + 2 + 1, 0, none⟩), .pointer (some ⟨w.heap.size + 2 + 2, 0, none⟩), .pointer (some ⟨w.heap.size + 2 + 3, 0, none⟩), .pointer none] 24))
    have hrow := arr_row w1 (w.heap.size + 2)
    rw [hsz] at hrow
    have hcor : Cores (w1.alloc (.cells #[.pointer (some ⟨w.heap.size + 2, 0, none⟩), .pointer (some ⟨w.heap.size + 2 + 1, 0, none⟩), .pointer (some ⟨w.heap.size + 2 + 2, 0, none⟩), .pointer (some ⟨w.heap.size + 2 + 3, 0, none⟩), .pointer none] 24)) (w.heap.size + 2) :=
      fun t ht => (hC t ht).of_block (Below.heap_alloc w1 _ _ (by omega))
    refine (build_any kf mf ka n kc ma ml mc (w.heap.size + 6) (w.heap.size + 2) fi fm has true _ hbig hml hfi5 (hks.below hal) hk (hms.below hal) hm hrow hcor (by simp; omega)).mono ?_
    rintro e w2 ⟨rfl, oth, m, cnt, ks, v, hH, hT, hB2, hlo⟩
    have hB := hal.trans (hB2.mono (by simp; omega))
    have hrow2 := hrow.below hB2 (by simp; omega)
    have hcor2 := hcor.below hB2 (by simp; omega)
    have hsz2 : w.heap.size ≤ w2.heap.size := hB.size
    clear hrow hcor hB1 hal hB2 hC
    simp only [World.size_alloc, hsz] at hH hlo
    have hct := hrow2.cell (j := ti) (by omega)
    go_wp2_with fail
    refine (put_any hH (cp (w.heap.size + 2) ti) (hcor2.key ti) nm hnm5 (hset_bd hH hT hm)).mono ?_
    rintro e w3 ⟨rfl, oth', m', cnt', hP, hTu, hor⟩
    have hbs : w.heap.size + 6 + 1 < w2.heap.size := hH.row.lt
    have hBP : Below (w.heap.size + 6 + 1) w2 w3 := hTu.below (by omega) (fun i hi => by
      rcases hi with rfl | ⟨o, ho, rfl | rfl⟩
      · exact Nat.le_refl _
      · exact (hlo _ ho).1
      · exact (hlo _ ho).2)
    have hrow3 := hrow2.below hBP (by omega)
    have hcor3 := hcor2.below hBP (by omega)
    have hB3 := hB.trans (hBP.mono (by omega))
    have hks3 := hks.below hB3
    have hms3 := hms.below hB3
    have hsz3 : w.heap.size ≤ w3.heap.size := hB3.size
    obtain ⟨s1, s2⟩ := put_self (cp (w.heap.size + 2) fi) (cp (w.heap.size + 2) ti) fm nm ks v (cp_some hti4)
    have hct3 := hrow3.cell (j := ti) (by omega)
    clear hct hrow2 hcor2 hks hms hTu hor hlo hH hBP hB
    go_wp2_with fail
    refine (mode_any hP (cp (w.heap.size + 2) ti) (hcor3.key ti)).mono ?_
    rintro e w4 ⟨rfl, hw4⟩
    rw [s1, s2]
    go_wp2_with fail
    clear hct3
    go_loopw [23] (fun t wr => ∃ j : Nat, t = .int .i64 j ∧ j ≤ 4 ∧ Below w3.heap.size w3 wr) (fun t _ => 4 - (intOf t).toNat)
    case atStart => exact ⟨0, rfl, by omega, hw4⟩
    case round =>
      obtain ⟨j, rfl, hj, hw⟩ := hrel
      by_cases hlt : j < 4
      · by_cases hjt : j = ti
        · subst hjt
          go_wp2_with fail
          go_roundw
          case rel => exact ⟨j + 1, by go_num, by omega, hw⟩
          case measure => simp [intOf]; omega
        · have hb : ((j : Int) == (ti : Int)) = false := by simp; omega
          have hcc := (hrow3.below hw hrow3.lt).cell (j := j) (by omega)
          obtain ⟨e1, e2⟩ := mode_tab (fm : Int) hT (show j < 5 by omega) hfi5
          obtain ⟨g1, g2⟩ := put_other (cp (w.heap.size + 2) fi) (cp (w.heap.size + 2) ti) (cp (w.heap.size + 2) j) fm nm ks v (cp_some hlt) (fun h => hjt (cp_inj (by omega) (by omega) h))
          rw [e1] at g1
          rw [e2] at g2
          clear e1 e2 s1 s2 hjt
          have G1 : Hid (hMode (pF (cp (w.heap.size + 2) fi) (cp (w.heap.size + 2) ti)) (pM (cp (w.heap.size + 2) fi) (fm : Int) (cp (w.heap.size + 2) ti) (nm : Int)) (pV (cp (w.heap.size + 2) fi) v (cp (w.heap.size + 2) ti) (nm : Int)) (cp (w.heap.size + 2) j) = tMode fi j (fm : Int) has kf mf ml true n) := g1
          have G2 : Hid (hHolds (pF (cp (w.heap.size + 2) fi) (cp (w.heap.size + 2) ti)) (pK (cp (w.heap.size + 2) fi) ks (cp (w.heap.size + 2) ti)) (cp (w.heap.size + 2) j) = tHolds fi j has kf n) := g2
          clear g1 g2
          go_wp2_with fail
          refine (mode_any (hP.below hw) (cp (w.heap.size + 2) j) ((hcor3.key j).below hw)).mono ?_
          rintro e w5 ⟨rfl, hw5⟩
          rw [G1.out, G2.out]
          have hw35 := hw.trans (hw5.mono hw.size)
          go_wp2_with fail
          refine (model_any kf mf ka n kc ma ml mc fi j fm has true w5 hbig hml hfi5 (by omega) (hks3.below hw35) hk (hms3.below hw35) hm).mono ?_
          rintro e w6 ⟨rfl, rfl⟩
          go_wp2_with fail
          go_roundw
          case rel => exact ⟨j + 1, by go_num, by omega, hw35⟩
          case measure => simp [intOf]; omega
      · go_wp2_with fail
        go_ret
        exact ⟨rfl, hB3.trans (hw.mono hsz3)⟩
  · go_enter Yba.func4, Yba.ntmps4
    go_wp2_with fail
    go_ret
    exact ⟨rfl, Below.refl _ _⟩

end Go.Proofs.Ybulkcrkq
