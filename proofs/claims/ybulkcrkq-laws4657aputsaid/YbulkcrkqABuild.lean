/- zzs4657abuild: the holder set that the two laws look into. -/
import Derived.Test.YbulkcrkqAPlain
import Derived.RegionTactic
import Derived.BigRegion
namespace Go.Proofs.Ybulkcrkq
open Go.ChangeShapes Go.WideShapes Go.ChangeAt Go.RowKit
set_option maxHeartbeats 400000
set_option maxRecDepth 20000
set_option linter.unusedVariables false

/-- What the map holds of the five slots. -/
def Tab (q : Nat) (kf mf : Nat → Int) (ml : Nat) (clamp has : Bool) (n : Nat) (ks : List (Option Addr)) (v : Option Addr → Int × Int) : Prop :=
  (∀ k ∈ ks, ∃ t, t < 5 ∧ k = cp q t) ∧ ∀ t, t < 5 → decide (cp q t ∈ ks) = (has && fnd kf t n) ∧ (v (cp q t)).1 = if has then lst kf mf ml clamp t n else 0

theorem tab_none (q : Nat) (kf mf : Nat → Int) (ml : Nat) (clamp : Bool) (n : Nat) : Tab q kf mf ml clamp false n [] (fun _ => (0, 0)) :=
  ⟨fun k hk => by simp at hk, fun t _ => by simp⟩

theorem tab_start (q : Nat) (kf mf : Nat → Int) (ml : Nat) (clamp : Bool) : Tab q kf mf ml clamp true 0 [] (fun _ => (0, 0)) :=
  ⟨fun k hk => by simp at hk, fun t _ => by simp [fnd, lst]⟩

theorem tab_step {q : Nat} {kf mf : Nat → Int} {ml : Nat} {clamp : Bool} {j : Nat} {ks : List (Option Addr)} {v : Option Addr → Int × Int} (h : Tab q kf mf ml clamp true j ks v) {s : Nat} (hs : s < 5) (hk : kf j % 5 = (s : Int)) :
    Tab q kf mf ml clamp true (j + 1) (ins ks (cp q s)) (updv v (cp q s) (mAt mf ml clamp j, 0)) := by
  obtain ⟨h1, h2⟩ := h
  refine ⟨fun k hk' => ?_, fun t ht => ?_⟩
  · rcases mem_ins.1 hk' with h | rfl
    · exact h1 k h
    · exact ⟨s, hs, rfl⟩
  · obtain ⟨a1, a2⟩ := h2 t ht
    simp at a1 a2
    by_cases e : t = s
    · subst e
      simp [mem_ins, fnd, hk, updv, lst]
    · have hne : cp q t ≠ cp q s := fun h => e (cp_inj ht hs h)
      have hkt : ¬ kf j % 5 = (t : Int) := by rw [hk]; omega
      simp [mem_ins, hne, fnd, hkt, updv, lst, a2, a1]

theorem hs_row0 (w : World) (first : Option Addr) (fm : Int) : RowAt (w.alloc (.cells #[.pointer first, .int .u8 fm, .pointer none] 91)) w.heap.size 91 3 (hsRow first fm none) := by
  refine row_lit w _ 91 3 rfl _ (fun j hj => ?_)
  have h : j = 0 ∨ j = 1 ∨ j = 2 := by omega
  rcases h with rfl | rfl | rfl <;> rfl

theorem oh_row0 (w : World) (m : Nat) : RowAt (w.alloc (.cells #[.map (some m), .int .i64 0, .int .i64 0, .int .i64 0, .int .i64 0, .int .i64 0, .int .i64 0, .pointer none] 96)) w.heap.size 96 8 (ohRow m (fun _ => 0) none) := by
  refine row_lit w _ 96 8 rfl _ (fun j hj => ?_)
  have h : j = 0 ∨ j = 1 ∨ j = 2 ∨ j = 3 ∨ j = 4 ∨ j = 5 ∨ j = 6 ∨ j = 7 := by omega
  rcases h with rfl | rfl | rfl | rfl | rfl | rfl | rfl | rfl <;> rfl

/-- The four cores lie in w. -/
def Cores (w : World) (q : Nat) : Prop := ∀ t, t < 4 → IsCore w ⟨q + t, 0, none⟩

theorem Cores.key {w : World} {q : Nat} (h : Cores w q) (t : Nat) : OkKey w (cp q t) := by
  unfold cp
  by_cases ht : t < 4
  · simp only [ht, if_true]
    exact h t ht
  · simp [ht, OkKey]

theorem Cores.below {w w' : World} {q B : Nat} (h : Cores w q) (hw : Below B w w') (hq : q + 4 ≤ B) : Cores w' q :=
  fun t ht => (h t ht).of_block (hw.block _ (by omega))

theorem build_any (kf mf : Nat → Int) (ka : Option Addr) (n kc : Nat) (ma : Option Addr) (ml mc : Nat) (cb q fi : Nat) (fm : Int) (has clamp : Bool) (w : World) (hn : n ≤ 1024) (hml : ml ≤ 9223372036854775807) (hfi : fi < 5)
    (hks : Shows .u8 kf ka n w) (hk : ∀ j, 0 ≤ kf j ∧ kf j ≤ 255) (hms : Shows .u8 mf ma ml w) (hm : ∀ j, 0 ≤ mf j ∧ mf j ≤ 255) (hcb : RowAt w cb 24 5 (fun t => .pointer (cp q t))) (hq : Cores w q) (hqs : q + 4 ≤ w.heap.size) :
    Calls Yba.prog 8 #[.pointer (some ⟨cb, 0, none⟩), .int .i64 fi, .int .u8 fm, .bool has, .slice ka n kc, .slice ma ml mc, .bool clamp] w fun e w' => e = .returned (.pointer (some ⟨w.heap.size, 0, none⟩)) ∧
      ∃ oth m cnt ks v, HSet w' w.heap.size (cp q fi) fm oth m cnt none ks v ∧ Tab q kf mf ml clamp has n ks v ∧ Below w.heap.size w w' ∧ (∀ o, oth = some o → w.heap.size ≤ o ∧ w.heap.size ≤ m) := by
  have hmm := @run_makeMap Yba.prog
  have cf := hcb.cell (j := fi) (by omega)
  have hlt := hcb.lt
  cases has with
  | false =>
    go_enter Yba.func8, Yba.ntmps8
    go_wp2_with fail
    go_ret
    exact ⟨rfl, none, 0, fun _ => 0, [], fun _ => (0, 0), ⟨hs_row0 w _ _, (hq.below ((Below.refl _ _).alloc (Nat.le_refl _) _) hqs).key fi, fun k hk => by simp at hk, fun o ho => (by cases ho), fun _ => ⟨rfl, fun _ => rfl⟩⟩, tab_none _ _ _ _ _ _, (Below.refl _ _).alloc (Nat.le_refl _) _, fun o ho => by cases ho⟩
  | true =>
    go_enter Yba.func8, Yba.ntmps8
    go_wp2_with fail
    clear cf hmm
    go_loopw [17] (fun t wr => ∃ (j : Nat) (ks : List (Option Addr)) (v : Option Addr → Int × Int), t = .int .i64 j ∧ j ≤ n ∧ RowAt wr w.heap.size 91 3 (hsRow (cp q fi) fm none) ∧ RowAt wr (w.heap.size + 1 + 1) 96 8 (ohRow (w.heap.size + 1) (fun _ => 0) none) ∧ MapIs wr (w.heap.size + 1) ks v ∧ Tab q kf mf ml clamp true j ks v ∧ Below w.heap.size w wr) (fun t _ => n - (intOf t).toNat)
    case atStart =>
      refine ⟨0, [], fun _ => (0, 0), rfl, Nat.zero_le _, ((hs_row0 w _ _).alloc _).alloc _, ?_, ?_, tab_start _ _ _ _ _, (((Below.refl _ _).alloc (Nat.le_refl _) _).alloc (by simp) _).alloc (by simp; omega) _⟩
      · have h := oh_row0 ((w.alloc (.cells #[.pointer (cp q fi), .int .u8 fm, .pointer none] 91)).alloc (.map #[] 0)) (w.heap.size + 1)
        simpa using h
      · have h := mapIs_made (w.alloc (.cells #[.pointer (cp q fi), .int .u8 fm, .pointer none] 91))
        simp only [World.size_alloc] at h
        exact h.of_block (Below.heap_alloc _ _ _ (by simp))
    case round =>
      obtain ⟨j, ks, v, rfl, hj, hS, hO, hM, hT, hB⟩ := hrel
      by_cases hjn : j < n
      · rcases hks.below hB with h | ⟨b, off, rfl, hb, hc⟩
        · omega
        · have hcc := hc j hjn
          have hkj := hk j
          obtain ⟨t, ht⟩ : ∃ t : Nat, kf j % 5 = (t : Int) := ⟨(kf j % 5).toNat, by omega⟩
          have ht5 : t < 5 := by omega
          have hct := (hcb.below hB hlt).cell (j := t) ht5
          have h0 := hO.cell (j := 0) (by omega)
          simp [ohRow] at h0
          have hC := hq.below hB hqs
          have hup := run_mapPut wr.drew (hM.of_block rfl) (fun k hk => by obtain ⟨t, _, rfl⟩ := hT.1 k hk; exact hC.key t) (hC.key t) (.agg #[.int .u8 (mAt mf ml clamp j), .int .i32 0])
          rw [mapPut_drew] at hup
          have H1 : Hid (Tab q kf mf ml clamp true j ks v ∧ RowAt wr w.heap.size 91 3 (hsRow (cp q fi) fm none) ∧ RowAt wr (w.heap.size + 1 + 1) 96 8 (ohRow (w.heap.size + 1) (fun _ => 0) none) ∧ MapIs wr (w.heap.size + 1) ks v ∧ (∀ j, 0 ≤ kf j ∧ kf j ≤ 255)) := ⟨hT, hS, hO, hM, hk⟩
          clear hT hS hO hM hk hc
          go_wp2_with (go_at_call 18; refine (modeat_any mf ma ml mc j clamp _ hml (by omega) (hms.below hB) hm).mono ?_; rintro e w' ⟨rfl, rfl⟩)
          go_region
          all_goals
            go_wp2_with fail
            go_roundw
            case rel =>
              obtain ⟨hT, hS, hO, hM, hk⟩ := H1.out
              exact ⟨j + 1, ins ks (cp q t), updv v (cp q t) (mAt mf ml clamp j, 0), by go_num, by omega, hS.of_block (mapPut_other _ _ _ _ (by omega)), hO.of_block (mapPut_other _ _ _ _ (by omega)), (hM.put (cp q t) (mAt mf ml clamp j) 0).of_block rfl, tab_step hT ht5 ht, (below_mapPut hB (by omega) _ _).drew⟩
            case measure => simp [intOf]; omega
      · obtain rfl : j = n := by omega
        have r2 := hS.cell (j := 2) (by omega)
        have f2 := hS.frozen 2
        simp [hsRow] at r2
        go_wp2_with fail
        go_ret
        have hB2 := hB.setCell (p := ⟨w.heap.size, 2, none⟩) (Nat.le_refl _) (.pointer (some ⟨w.heap.size + 1 + 1, 0, none⟩))
        have hC := hq.below hB2 hqs
        refine ⟨rfl, some (w.heap.size + 1 + 1), w.heap.size + 1, fun _ => 0, ks, v, ⟨?_, hC.key fi, ?_, ?_, fun h => (by cases h)⟩, hT, hB2, fun o ho => ⟨by cases ho; omega, by omega⟩⟩
        · refine (hS.set 2 _ (by omega)).congr (fun i hi => ?_)
          have h : i = 0 ∨ i = 1 ∨ i = 2 := by omega
          rcases h with rfl | rfl | rfl <;> simp [upd, hsRow]
        · intro k hk
          obtain ⟨t, _, rfl⟩ := hT.1 k hk
          exact hC.key t
        · intro o ho
          cases ho
          exact ⟨hO.other _ _ (by simp; omega), hM.of_block (Below.heap_setCell _ _ _ _ (by simp)), by omega⟩

end Go.Proofs.Ybulkcrkq
