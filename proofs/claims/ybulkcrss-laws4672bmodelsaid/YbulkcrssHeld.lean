/- heldAbove, heldReacher and zzs4672bheld. -/
import Derived.Test.YbulkcrssPasses
import Derived.Test.YbulkcrssState
namespace Go.Proofs.Ybulkcrss
open Go.ChangeShapes Go.WideShapes Go.ChangeAt Go.RowKit
set_option maxHeartbeats 400000
set_option maxRecDepth 20000
set_option linter.unusedVariables false

/-- Is there a held event above x on its key's line? -/
def hvB (bl kn p : Nat → Int) (x : Nat) : Bool := if kn x < 0 then false else (p (kn x).toNat != 0) && onL bl (p (kn x).toNat - 1).toNat x
/-- .. which. -/
def hvV (bl kn p : Nat → Int) (x : Nat) : Int := if hvB bl kn p x then p (kn x).toNat - 1 else 0

/-- The state's reading: keys 0 to 3, places below n. -/
structure Fit (n : Nat) (bl kn p : Nat → Int) : Prop where
  n1 : n ≤ 1024
  down : Down bl
  kn : ∀ x, -1 ≤ kn x ∧ kn x < 4
  p : ∀ k, 0 ≤ p k ∧ p k ≤ n

theorem KSt.below {w w' : World} {sb : Nat} {p : Nat → Int} {root own : Option Nat} (h : KSt w sb p root own) (hw : Below w.heap.size w w') : KSt w' sb p root own :=
  ⟨h.row.below hw h.row.lt, h.hnone, fun r hr => by obtain ⟨o, ho, hR, hl⟩ := h.hsome r hr; exact ⟨o, ho, hR.below hw hR.lt, hl⟩⟩

theorem bheld_any {n : Nat} {bl kn p : Nat → Int} (F : Fit n bl kn p) {w : World} {sb : Nat} {root own : Option Nat} (hK : KSt w sb p root own) (kb bb x : Nat) (hx : x < n)
    (hk : RowAt w kb 3 n (fun x => .int .i64 (kn x))) (hb : RowAt w bb 21 n (fun x => .int .i32 (bl x))) :
    Calls Yba.prog 10 #[.agg #[pt root, .int .i64 0, pt own], .slice (some ⟨kb, 0, none⟩) n n, .slice (some ⟨bb, 0, none⟩) n n, .int .i64 x] w fun e w' =>
      e = .returned (.tuple #[.int .i64 (hvV bl kn p x), .bool (hvB bl kn p x)]) ∧ Below w.heap.size w w' := by
  have hn := F.n1
  have hc := hk.cell hx
  have hkl := hk.lt
  have hkx := F.kn x
  have hal := hK.below ((Below.refl _ _).alloc (Nat.le_refl _) (.cells #[pt root, .int .i64 0, pt own] 47))
  have hbal := hb.alloc (.cells #[pt root, .int .i64 0, pt own] 47)
  by_cases hneg : kn x < 0
  · have e1 : hvB bl kn p x = false := by simp [hvB, hneg]
    have e2 : hvV bl kn p x = 0 := by simp [hvV, e1]
    rw [e1, e2]
    clear e1 e2
    go_enter Yba.func10, Yba.ntmps10
    go_wp2_with fail
    go_ret2
    exact ⟨rfl, (Below.refl _ _).alloc (Nat.le_refl _) _⟩
  · obtain ⟨k, hkk⟩ : ∃ k : Nat, kn x = (k : Int) := ⟨(kn x).toNat, by omega⟩
    have hk4 : k < 4 := by omega
    have hpk := F.p k
    have eB : hvB bl kn p x = ((p k != 0) && onL bl (p k - 1).toNat x) := by
      have : ¬ ((k : Int) < 0) := by omega
      simp [hvB, hkk, this]
    have eV : hvV bl kn p x = if hvB bl kn p x then p k - 1 else 0 := by simp [hvV, hkk]
    rw [hkk] at hc
    clear hkk hkx hneg
    have hat := fun w' h' => at_any (w := w') (sb := sb) (p := p) (root := root) (own := own) h' k hk4 (fun j => by have := F.p j; omega)
    by_cases hp0 : p k = 0
    · have e1 : hvB bl kn p x = false := by rw [eB]; simp [hp0]
      have e2 : hvV bl kn p x = 0 := by rw [eV, e1]; rfl
      rw [e1, e2]
      clear e1 e2 eB eV
      have hpb : (p k != 0) = false := by simp [hp0]
      go_enter Yba.func10, Yba.ntmps10
      go_wp2_with fail
      refine (hat _ hal).mono ?_
      rintro e w1 ⟨rfl, hB1⟩
      go_wp2_with fail
      go_ret2
      exact ⟨rfl, ((Below.refl _ _).alloc (Nat.le_refl _) _).trans (hB1.mono (by simp))⟩
    · have hpb : (p k != 0) = true := by simpa using hp0
      obtain ⟨j, hj⟩ : ∃ j : Nat, p k - 1 = (j : Int) := ⟨(p k - 1).toNat, by omega⟩
      have hjn : j < n := by omega
      have hroot : atV root p k = (j : Int) := by
        unfold atV
        cases root with
        | none => exact absurd (hK.hnone rfl k) hp0
        | some r => simpa using hj
      rw [hpb, hj] at eB
      rw [hj] at eV
      simp at eB
      cases hon : onL bl j x with
      | true =>
        have e1 : hvB bl kn p x = true := by rw [eB, hon]
        have e2 : hvV bl kn p x = (j : Int) := by rw [eV, e1]; rfl
        rw [e1, e2]
        have hps := fun w' hR' => bpasses_any bl F.down bb n n j x w' hn hjn hx hR'
        rw [hon] at hps
        have HJ : Hid (p k - 1 = (j : Int)) := hj
        clear e1 e2 eB eV hon hp0 hj
        go_enter Yba.func10, Yba.ntmps10
        go_wp2_with fail
        refine (hat _ hal).mono ?_
        rintro e w1 ⟨rfl, hB1⟩
        rw [hroot, hpb]
        go_wp2_with fail
        refine (hps _ (hbal.below hB1 hbal.lt)).mono ?_
        rintro e w2 ⟨rfl, rfl⟩
        go_wp2_with fail
        go_ret2
        exact ⟨rfl, ((Below.refl _ _).alloc (Nat.le_refl _) _).trans (hB1.mono (by simp))⟩
      | false =>
        have e1 : hvB bl kn p x = false := by rw [eB, hon]
        have e2 : hvV bl kn p x = 0 := by rw [eV, e1]; rfl
        rw [e1, e2]
        have hps := fun w' hR' => bpasses_any bl F.down bb n n j x w' hn hjn hx hR'
        rw [hon] at hps
        have HJ : Hid (p k - 1 = (j : Int)) := hj
        clear e1 e2 eB eV hon hp0 hj
        go_enter Yba.func10, Yba.ntmps10
        go_wp2_with fail
        refine (hat _ hal).mono ?_
        rintro e w1 ⟨rfl, hB1⟩
        rw [hroot, hpb]
        go_wp2_with fail
        refine (hps _ (hbal.below hB1 hbal.lt)).mono ?_
        rintro e w2 ⟨rfl, rfl⟩
        go_wp2_with fail
        go_ret2
        exact ⟨rfl, ((Below.refl _ _).alloc (Nat.le_refl _) _).trans (hB1.mono (by simp))⟩

/-- The authGraph in block gb: its room in rb, the events in eb, the reachers in cb, the lines' arrays. -/
structure Graph (w : World) (n : Nat) (bl kn rc : Nat → Int) (gb rb eb cb bb db jb : Nat) : Prop where
  lines : Lines w bl gb 5 bb db jb n
  room : w.cell? ⟨gb, 1, none⟩ = some (.pointer (some ⟨rb, 0, none⟩))
  evs : w.cell? ⟨rb, 4, none⟩ = some (.slice (some ⟨eb, 0, none⟩) n n)
  key : ∀ x, x < n → w.cell? ⟨eb, x * 16 + 10, none⟩ = some (.int .i64 (kn x))
  reach : w.cell? ⟨gb, 8, none⟩ = some (.slice (some ⟨cb, 0, none⟩) n n)
  rcs : RowAt w cb 21 n (fun x => .int .i32 (rc x))
  lt : gb < w.heap.size ∧ rb < w.heap.size ∧ eb < w.heap.size

theorem Graph.below {w w' : World} {n : Nat} {bl kn rc : Nat → Int} {gb rb eb cb bb db jb : Nat} (h : Graph w n bl kn rc gb rb eb cb bb db jb) (hw : Below w.heap.size w w') : Graph w' n bl kn rc gb rb eb cb bb db jb :=
  ⟨h.lines.below' hw h.lt.1, (hw.cell (p := ⟨gb, 1, none⟩) h.lt.1).trans h.room, (hw.cell (p := ⟨rb, 4, none⟩) h.lt.2.1).trans h.evs, fun x hx => (hw.cell (p := ⟨eb, x * 16 + 10, none⟩) h.lt.2.2).trans (h.key x hx),
    (hw.cell (p := ⟨gb, 8, none⟩) h.lt.1).trans h.reach, h.rcs.below hw h.rcs.lt, by have := hw.size; have := h.lt; omega⟩

theorem habove_any {n : Nat} {bl kn p : Nat → Int} (F : Fit n bl kn p) {w : World} {sb : Nat} {root own : Option Nat} (hK : KSt w sb p root own) {rc : Nat → Int} {gb rb eb cb bb db jb : Nat} (hG : Graph w n bl kn rc gb rb eb cb bb db jb) (x : Nat) (hx : x < n) :
    Calls Yba.prog 14 #[.pointer (some ⟨gb, 0, none⟩), .agg #[pt root, .int .i64 0, pt own], .int .i64 x] w fun e w' =>
      e = .returned (.tuple #[.int .i64 (hvV bl kn p x), .bool (hvB bl kn p x)]) ∧ Below w.heap.size w w' := by
  have hn := F.n1
  have hc := hG.key x hx
  have g1 := hG.room
  have g2 := hG.evs
  obtain ⟨l1, l2, l3⟩ := hG.lt
  have hkx := F.kn x
  have hal := hK.below ((Below.refl _ _).alloc (Nat.le_refl _) (.cells #[pt root, .int .i64 0, pt own] 47))
  have hGal := hG.below ((Below.refl _ _).alloc (Nat.le_refl _) (.cells #[pt root, .int .i64 0, pt own] 47))
  by_cases hneg : kn x < 0
  · have e1 : hvB bl kn p x = false := by simp [hvB, hneg]
    have e2 : hvV bl kn p x = 0 := by simp [hvV, e1]
    rw [e1, e2]
    clear e1 e2
    go_enter Yba.func14, Yba.ntmps14
    go_wp2_with fail
    go_ret2
    exact ⟨rfl, (Below.refl _ _).alloc (Nat.le_refl _) _⟩
  · obtain ⟨k, hkk⟩ : ∃ k : Nat, kn x = (k : Int) := ⟨(kn x).toNat, by omega⟩
    have hk4 : k < 4 := by omega
    have hpk := F.p k
    have eB : hvB bl kn p x = ((p k != 0) && onL bl (p k - 1).toNat x) := by
      have : ¬ ((k : Int) < 0) := by omega
      simp [hvB, hkk, this]
    have eV : hvV bl kn p x = if hvB bl kn p x then p k - 1 else 0 := by simp [hvV, hkk]
    rw [hkk] at hc
    clear hkk hkx hneg
    have hat := fun w' h' => at_any (w := w') (sb := sb) (p := p) (root := root) (own := own) h' k hk4 (fun j => by have := F.p j; omega)
    by_cases hp0 : p k = 0
    · have e1 : hvB bl kn p x = false := by rw [eB]; simp [hp0]
      have e2 : hvV bl kn p x = 0 := by rw [eV, e1]; rfl
      rw [e1, e2]
      clear e1 e2 eB eV
      have hpb : (p k != 0) = false := by simp [hp0]
      go_enter Yba.func14, Yba.ntmps14
      go_wp2_with fail
      refine (hat _ hal).mono ?_
      rintro e w1 ⟨rfl, hB1⟩
      go_wp2_with fail
      go_ret2
      exact ⟨rfl, ((Below.refl _ _).alloc (Nat.le_refl _) _).trans (hB1.mono (by simp))⟩
    · have hpb : (p k != 0) = true := by simpa using hp0
      obtain ⟨j, hj⟩ : ∃ j : Nat, p k - 1 = (j : Int) := ⟨(p k - 1).toNat, by omega⟩
      have hjn : j < n := by omega
      have hroot : atV root p k = (j : Int) := by
        unfold atV
        cases root with
        | none => exact absurd (hK.hnone rfl k) hp0
        | some r => simpa using hj
      rw [hpb, hj] at eB
      rw [hj] at eV
      simp at eB
      have hps := fun w' hL' => passes_any bl F.down gb 5 bb db jb n j x w' hn hjn hx hL'
      have HJ : Hid (p k - 1 = (j : Int)) := hj
      have e2 : hvV bl kn p x = if onL bl j x then (j : Int) else 0 := by rw [eV, eB]
      rw [eB, e2]
      clear eB eV hp0 hj e2
      cases hon : onL bl j x with
      | true =>
        rw [hon] at hps
        clear hon
        go_enter Yba.func14, Yba.ntmps14
        go_wp2_with fail
        refine (hat _ hal).mono ?_
        rintro e w1 ⟨rfl, hB1⟩
        rw [hroot, hpb]
        go_wp2_with fail
        refine (hps _ (hGal.below hB1).lines).mono ?_
        rintro e w2 ⟨rfl, q, rfl⟩
        go_wp2_with fail
        go_ret2
        exact ⟨rfl, (((Below.refl _ _).alloc (Nat.le_refl _) _).trans (hB1.mono (by simp))).trans (below_drewN' _ _ _)⟩
      | false =>
        rw [hon] at hps
        clear hon
        go_enter Yba.func14, Yba.ntmps14
        go_wp2_with fail
        refine (hat _ hal).mono ?_
        rintro e w1 ⟨rfl, hB1⟩
        rw [hroot, hpb]
        go_wp2_with fail
        refine (hps _ (hGal.below hB1).lines).mono ?_
        rintro e w2 ⟨rfl, q, rfl⟩
        go_wp2_with fail
        go_ret2
        exact ⟨rfl, (((Below.refl _ _).alloc (Nat.le_refl _) _).trans (hB1.mono (by simp))).trans (below_drewN' _ _ _)⟩

/-- What heldReacher answers. -/
def hrB (bl kn p rc : Nat → Int) (x : Nat) : Bool := if hvB bl kn p x then true else if 0 ≤ rc x then hvB bl kn p (rc x).toNat else false
def hrV (bl kn p rc : Nat → Int) (x : Nat) : Int := if hvB bl kn p x then hvV bl kn p x else if 0 ≤ rc x then hvV bl kn p (rc x).toNat else 0

theorem hreach_any {n : Nat} {bl kn p : Nat → Int} (F : Fit n bl kn p) {w : World} {sb : Nat} {root own : Option Nat} (hK : KSt w sb p root own) {rc : Nat → Int} {gb rb eb cb bb db jb : Nat} (hG : Graph w n bl kn rc gb rb eb cb bb db jb) (hrc : ∀ y, -1 ≤ rc y ∧ rc y < n) (x : Nat) (hx : x < n) :
    Calls Yba.prog 9 #[.pointer (some ⟨gb, 0, none⟩), .agg #[pt root, .int .i64 0, pt own], .int .i64 x] w fun e w' =>
      e = .returned (.tuple #[.int .i64 (hrV bl kn p rc x), .bool (hrB bl kn p rc x)]) ∧ Below w.heap.size w w' := by
  have hn := F.n1
  have hrx := hrc x
  have hB0 := (Below.refl w.heap.size w).alloc (Nat.le_refl _) (.cells #[pt root, .int .i64 0, pt own] 47)
  have hal := hK.below hB0
  have hGal := hG.below hB0
  have habv := fun y hy => habove_any F hal hGal y hy
  cases hb : hvB bl kn p x with
  | true =>
    have e1 : hrB bl kn p rc x = true := by simp [hrB, hb]
    have e2 : hrV bl kn p rc x = hvV bl kn p x := by simp [hrV, hb]
    rw [e1, e2]
    have h1 := habv x hx
    rw [hb] at h1
    clear e1 e2 hb habv
    go_enter Yba.func9, Yba.ntmps9
    go_wp2_with fail
    refine h1.mono ?_
    rintro e w1 ⟨rfl, hB1⟩
    go_wp2_with fail
    go_ret2
    exact ⟨rfl, hB0.trans (hB1.mono (by simp))⟩
  | false =>
    have h1 := habv x hx
    rw [hb] at h1
    by_cases hneg : rc x < 0
    · have hng : ¬ 0 ≤ rc x := by omega
      have e1 : hrB bl kn p rc x = false := by simp [hrB, hb, hng]
      have e2 : hrV bl kn p rc x = 0 := by simp [hrV, hb, hng]
      rw [e1, e2]
      clear e1 e2 hb habv
      go_enter Yba.func9, Yba.ntmps9
      go_wp2_with fail
      refine h1.mono ?_
      rintro e w1 ⟨rfl, hB1⟩
      have hG1 := hGal.below hB1
      have c8 := hG1.reach
      have cr := hG1.rcs.cell hx
      go_wp2_with fail
      go_ret2
      exact ⟨rfl, hB0.trans (hB1.mono (by simp))⟩
    · obtain ⟨y, hy⟩ : ∃ y : Nat, rc x = (y : Int) := ⟨(rc x).toNat, by omega⟩
      have hyn : y < n := by omega
      have e1 : hrB bl kn p rc x = hvB bl kn p y := by simp [hrB, hb, hy]
      have e2 : hrV bl kn p rc x = hvV bl kn p y := by simp [hrV, hb, hy]
      rw [e1, e2]
      clear e1 e2 hb habv
      go_enter Yba.func9, Yba.ntmps9
      go_wp2_with fail
      refine h1.mono ?_
      rintro e w1 ⟨rfl, hB1⟩
      have hG1 := hGal.below hB1
      have hK1 := hal.below hB1
      have c8 := hG1.reach
      have cr := hG1.rcs.cell hx
      simp only [hy] at cr
      clear hy hrx
      have s0 : w1.cell? ⟨w.heap.size, 0, none⟩ = some (pt root) := (hB1.cell (p := ⟨w.heap.size, 0, none⟩) (by simp)).trans (by simp)
      have s1 : w1.cell? ⟨w.heap.size, 1, none⟩ = some (.int .i64 0) := (hB1.cell (p := ⟨w.heap.size, 1, none⟩) (by simp)).trans (by simp)
      have s2 : w1.cell? ⟨w.heap.size, 2, none⟩ = some (pt own) := (hB1.cell (p := ⟨w.heap.size, 2, none⟩) (by simp)).trans (by simp)
      go_wp2_with fail
      refine (habove_any F hK1 hG1 y hyn).mono ?_
      rintro e w2 ⟨rfl, hB2⟩
      go_wp2_with fail
      go_ret2
      exact ⟨rfl, (hB0.trans (hB1.mono (by simp))).trans (hB2.mono (by have := hB1.size; simp at this; omega))⟩

end Go.Proofs.Ybulkcrss
