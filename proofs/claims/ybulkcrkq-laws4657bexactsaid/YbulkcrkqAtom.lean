/- Atomic bools; the mode set; the id at a place. -/
import Derived.Test.YbulkcrkqPut
import Derived.BigQuiet
import Derived.Laws.LoneSync
import Derived.RegionCalls
namespace Go.Proofs.Ybulkcrkq
open Go.ChangeShapes Go.WideShapes Go.ChangeAt Go.RowKit
set_option maxHeartbeats 400000
set_option maxRecDepth 20000
set_option linter.unusedVariables false

theorem load_any (b o : Nat) (x : Int) (w : World) (h : w.cell? ⟨b, o, none⟩ = some (.int .u32 x)) :
    Calls Yba.prog 23 #[.pointer (some ⟨b, o, none⟩)] w fun e w' => e = .returned (.bool (x != 0)) ∧ w = w' := by
  have hl := run_call_load (P := Yba.prog) Yba.func33 (by kernel_rfl) (by kernel_rfl) (by kernel_rfl) .u32 (by kernel_rfl) h
  go_enter Yba.func23, Yba.ntmps23
  go_wp2
  go_ret
  exact ⟨rfl, rfl⟩

theorem store_any (b o : Nat) (x : Int) (w : World) (h : w.cell? ⟨b, o, none⟩ = some (.int .u32 x)) (hf : w.frozen? ⟨b, o, none⟩ = false) :
    Calls Yba.prog 20 #[.pointer (some ⟨b, o, none⟩), .bool true] w fun e w' => e = .returned (.tuple #[]) ∧ (w.setCell ⟨b, o, none⟩ (.int .u32 1)).drew = w' := by
  have hl := run_call_store (P := Yba.prog) Yba.func31 (by kernel_rfl) (by kernel_rfl) (by kernel_rfl) (by kernel_rfl) (k := .u32) (y := 1) (w := w.drew) (a := ⟨b, o, none⟩) h hf
  go_enter Yba.func20, Yba.ntmps20
  go_wp2_with fail
  go_region_calls
  all_goals
    go_end0
    exact ⟨rfl, rfl⟩

/-- The set has the mode. -/
def hasM (set m : Int) : Bool := bits .and .u8 set (2 ^ m.toNat) != 0

theorem has_any (set : Int) (hs : 0 ≤ set ∧ set ≤ 255) (m : Int) (hm : 1 ≤ m ∧ m ≤ 5) (w : World) :
    Calls Yba.prog 21 #[.int .u8 set, .int .u8 m] w fun e w' => e = .returned (.bool (hasM set m)) ∧ w = w' := by
  have : m = 1 ∨ m = 2 ∨ m = 3 ∨ m = 4 ∨ m = 5 := by omega
  rcases this with rfl | rfl | rfl | rfl | rfl
  all_goals
    go_enter Yba.func21, Yba.ntmps21
    go_wp2
    go_ret
    exact ⟨rfl, rfl⟩

/-- The id that a look goes by: none where the core is wounded. -/
def ageOf (wd id : Int) : Int := if wd = 0 then id else 0

theorem idAt_any (L o tb n cap i c : Nat) (hi : i < n) (hn : n ≤ 1024) (wd id : Int) (w : World) (h0 : w.cell? ⟨L, o, none⟩ = some (.slice (some ⟨tb, 0, none⟩) n cap)) (h1 : w.cell? ⟨tb, i, none⟩ = some (.pointer (some ⟨c, 0, none⟩)))
    (h2 : w.cell? ⟨c, 35, none⟩ = some (.int .u32 wd)) (h3 : w.cell? ⟨c, 37, none⟩ = some (.int .u64 id)) :
    Calls Yba.prog 26 #[.pointer (some ⟨L, o, none⟩), .int .i64 i] w fun e w' => e = .returned (.int .u64 (ageOf wd id)) ∧ w = w' := by
  have hl := load_any c 35 wd w h2
  by_cases hw : wd = 0
  · have hb : (wd != 0) = false := by simpa using hw
    have he0 : ageOf wd id = id := by simp [ageOf, hw]
    have he : Hid (ageOf wd id = id) := he0
    clear he0
    rw [hb] at hl
    clear hw hb
    go_enter Yba.func26, Yba.ntmps26
    go_wp2_with (go_at_call 23; refine hl.mono ?_; rintro e w' ⟨rfl, rfl⟩)
    go_ret
    exact ⟨by rw [he.out]; rfl, rfl⟩
  · have hb : (wd != 0) = true := by simpa using hw
    have he0 : ageOf wd id = 0 := by simp [ageOf, hw]
    have he : Hid (ageOf wd id = 0) := he0
    clear he0
    rw [hb] at hl
    clear hw hb
    go_enter Yba.func26, Yba.ntmps26
    go_wp2_with (go_at_call 23; refine hl.mono ?_; rintro e w' ⟨rfl, rfl⟩)
    go_ret
    exact ⟨by rw [he.out]; rfl, rfl⟩

/-- The row of cores that hs shows: core j of n lies in block cs j. -/
def CoresAt (w : World) (hb n : Nat) (cs : Nat → Nat) : Prop := ∀ j, j < n → w.cell? ⟨hb, j, none⟩ = some (.pointer (some ⟨cs j, 0, none⟩))

theorem index_any (hb n cap : Nat) (cs : Nat → Nat) (hn : n ≤ 1024) (hinj : ∀ i j, i < n → j < n → cs i = cs j → i = j) (j : Nat) (hj : j < n) (w : World) (h : CoresAt w hb n cs) (hc : ∀ j, j < n → IsCore w ⟨cs j, 0, none⟩) :
    Calls Yba.prog 16 #[.slice (some ⟨hb, 0, none⟩) n cap, .pointer (some ⟨cs j, 0, none⟩)] w fun e w' => e = .returned (.int .i64 j) ∧ w = w' := by
  go_enter Yba.func16, Yba.ntmps16
  go_wp2_with fail
  go_loopw [5] (fun t wr => ∃ x : Nat, t = .int .i64 x ∧ x ≤ j ∧ w = wr) (fun t _ => n - (intOf t).toNat)
  case atStart => exact ⟨0, rfl, Nat.zero_le _, rfl⟩
  case round =>
    obtain ⟨x, rfl, hx, rfl⟩ := hrel
    have hxn : x < n := by omega
    have e1 := h x hxn
    have heq := run_eql_keys w (x := some ⟨cs x, 0, none⟩) (y := some ⟨cs j, 0, none⟩) (hc x hxn) (hc j hj)
    by_cases hxj : x = j
    · have hd : decide (some (⟨cs x, 0, none⟩ : Addr) = some ⟨cs j, 0, none⟩) = true := by simp [hxj]
      rw [hd] at heq
      have HJ : Hid (x = j) := hxj
      clear hxj hd
      go_wp2_with fail
      go_ret
      exact ⟨by rw [HJ.out]; rfl, rfl⟩
    · have hd : decide (some (⟨cs x, 0, none⟩ : Addr) = some ⟨cs j, 0, none⟩) = false := by
        simp
        exact fun e => hxj (hinj x j hxn hj e)
      rw [hd] at heq
      go_wp2_with fail
      go_roundw
      case rel => exact ⟨x + 1, by go_num, by omega, trivial⟩
      case measure => simp [intOf]; omega

/-- One row of the specification: id, mode, wounded. -/
structure SpecAt (w : World) (sa : Option Addr) (n : Nat) (I M : Nat → Int) (W : Nat → Bool) : Prop where
  all : n = 0 ∨ ∃ b off, sa = some ⟨b, off, none⟩ ∧ b < w.heap.size ∧ ∀ j, j < n → w.cell? ⟨b, off + j * 3, none⟩ = some (.int .u8 (I j)) ∧ w.cell? ⟨b, off + j * 3 + 1, none⟩ = some (.int .u8 (M j)) ∧ w.cell? ⟨b, off + j * 3 + 2, none⟩ = some (.bool (W j))

theorem SpecAt.below {w w' : World} {sa : Option Addr} {n : Nat} {I M : Nat → Int} {W : Nat → Bool} (h : SpecAt w sa n I M W) (hw : Below w.heap.size w w') : SpecAt w' sa n I M W := by
  rcases h.all with h | ⟨b, off, rfl, hb, hc⟩
  · exact ⟨.inl h⟩
  · exact ⟨.inr ⟨b, off, rfl, Nat.lt_of_lt_of_le hb hw.size, fun j hj => ⟨(hw.cell (p := ⟨b, _, none⟩) hb).trans (hc j hj).1, (hw.cell (p := ⟨b, _, none⟩) hb).trans (hc j hj).2.1, (hw.cell (p := ⟨b, _, none⟩) hb).trans (hc j hj).2.2⟩⟩⟩

/-- An id fits the look. -/
def fits (older : Bool) (q id : Int) : Bool := if older then decide (id < q) else decide (q < id)
/-- Holder j qualifies. -/
def qual (I M : Nat → Int) (W : Nat → Bool) (set q : Int) (older : Bool) (j : Nat) : Bool := !(W j) && hasM set (M j % 5 + 1) && fits older q (I j % 16 + 1)

theorem qual_any (sa : Option Addr) (n sc mb mc : Nat) (I M : Nat → Int) (W : Nat → Bool) (hI : ∀ j, 0 ≤ I j ∧ I j ≤ 255) (hM : ∀ j, 0 ≤ M j ∧ M j ≤ 255) (hn : n ≤ 1024) (set q : Int) (hs : 0 ≤ set ∧ set ≤ 255) (hq : 0 ≤ q ∧ q < 100) (older : Bool) (j : Nat) (hj : j < n) (w : World) (h : SpecAt w sa n I M W) (hm : w.cell? ⟨mb, j, none⟩ = some (.int .u8 (M j % 5 + 1))) :
    Calls Yba.prog 13 #[.slice sa n sc, .slice (some ⟨mb, 0, none⟩) n mc, .int .i64 j, .int .u8 set, .int .u64 q, .bool older] w fun e w' => e = .returned (.bool (qual I M W set q older j)) ∧ w = w' := by
  rcases h.all with h0 | ⟨b, off, rfl, hb, hc⟩
  · omega
  obtain ⟨c0, c1, c2⟩ := hc j hj
  clear hc
  have m1 := Int.emod_nonneg (M j) (show (5 : Int) ≠ 0 by omega)
  have m2 := Int.emod_lt_of_pos (M j) (show (0 : Int) < 5 by omega)
  have i1 := Int.emod_nonneg (I j) (show (16 : Int) ≠ 0 by omega)
  have i2 := Int.emod_lt_of_pos (I j) (show (0 : Int) < 16 by omega)
  have hIj := hI j
  have hh := has_any set hs (M j % 5 + 1) (by omega) w
  cases hW : W j with
  | true =>
    rw [hW] at c2
    have he0 : qual I M W set q older j = false := by simp [qual, hW]
    have he : Hid (qual I M W set q older j = false) := he0
    clear he0 hW
    go_enter Yba.func13, Yba.ntmps13
    go_wp2_with fail
    go_ret
    exact ⟨by rw [he.out]; rfl, rfl⟩
  | false =>
    rw [hW] at c2
    cases hS : hasM set (M j % 5 + 1) with
    | false =>
      rw [hS] at hh
      have he0 : qual I M W set q older j = false := by simp [qual, hS]
      have he : Hid (qual I M W set q older j = false) := he0
      clear he0 hW hS
      go_enter Yba.func13, Yba.ntmps13
      go_wp2_with (go_at_call 21; refine hh.mono ?_; rintro e w' ⟨rfl, rfl⟩)
      go_ret
      exact ⟨by rw [he.out]; rfl, rfl⟩
    | true =>
      rw [hS] at hh
      have he0 : qual I M W set q older j = fits older q (I j % 16 + 1) := by simp [qual, hS, hW]
      have he : Hid (qual I M W set q older j = fits older q (I j % 16 + 1)) := he0
      clear he0 hW hS
      cases older
      · go_enter Yba.func13, Yba.ntmps13
        go_wp2_with (go_at_call 21; refine hh.mono ?_; rintro e w' ⟨rfl, rfl⟩)
        go_ret
        exact ⟨by rw [he.out]; rfl, rfl⟩
      · go_enter Yba.func13, Yba.ntmps13
        go_wp2_with (go_at_call 21; refine hh.mono ?_; rintro e w' ⟨rfl, rfl⟩)
        go_ret
        exact ⟨by rw [he.out]; rfl, rfl⟩
end Go.Proofs.Ybulkcrkq
