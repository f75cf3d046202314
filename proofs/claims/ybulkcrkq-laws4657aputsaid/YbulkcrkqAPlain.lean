/- The table of modes that LawS4657AModel and LawS4657APut look up; amodeat, amodel, walked. -/
import Derived.Test.YbulkcrkqSet
namespace Go.Proofs.Ybulkcrkq
open Go.ChangeShapes Go.WideShapes Go.ChangeAt Go.RowKit
set_option maxHeartbeats 400000
set_option maxRecDepth 20000
set_option linter.unusedVariables false

/-- The mode at place i: 0 beyond the list; clamped to 1 .. 5 if asked. -/
def mAt (mf : Nat → Int) (ml : Nat) (clamp : Bool) (i : Nat) : Int :=
  if clamp then 1 + (if i < ml then mf i else 0) % 5 else if i < ml then mf i else 0

/-- Is there a key before n that falls on q? -/
def fnd (kf : Nat → Int) (q : Nat) : Nat → Bool
  | 0 => false
  | n + 1 => if kf n % 5 = (q : Int) then true else fnd kf q n

/-- The mode of the last such. -/
def lst (kf mf : Nat → Int) (ml : Nat) (clamp : Bool) (q : Nat) : Nat → Int
  | 0 => 0
  | n + 1 => if kf n % 5 = (q : Int) then mAt mf ml clamp n else lst kf mf ml clamp q n

theorem mAt_bd {mf : Nat → Int} (hm : ∀ j, 0 ≤ mf j ∧ mf j ≤ 255) (ml : Nat) (clamp : Bool) (i : Nat) : 0 ≤ mAt mf ml clamp i ∧ mAt mf ml clamp i ≤ 255 := by
  have := hm i
  unfold mAt
  cases clamp <;> simp <;> split <;> omega

theorem mAt_clamp {mf : Nat → Int} (hm : ∀ j, 0 ≤ mf j ∧ mf j ≤ 255) (ml : Nat) (i : Nat) : 0 ≤ mAt mf ml true i ∧ mAt mf ml true i ≤ 5 := by
  have := hm i
  unfold mAt
  simp
  split <;> omega

theorem lst_clamp {kf mf : Nat → Int} (hm : ∀ j, 0 ≤ mf j ∧ mf j ≤ 255) (ml q : Nat) : ∀ n, 0 ≤ lst kf mf ml true q n ∧ lst kf mf ml true q n ≤ 5
  | 0 => by simp [lst]
  | n + 1 => by
    have := lst_clamp (kf := kf) hm ml q n
    have := mAt_clamp hm ml n
    unfold lst
    split <;> omega

theorem modeat_any (mf : Nat → Int) (a : Option Addr) (ml cap : Nat) (i : Nat) (clamp : Bool) (w : World) (hml : ml ≤ 9223372036854775807) (hi : i ≤ 1024) (hs : Shows .u8 mf a ml w) (hm : ∀ j, 0 ≤ mf j ∧ mf j ≤ 255) :
    Calls Yba.prog 18 #[.slice a ml cap, .int .i64 i, .bool clamp] w fun e w' => e = .returned (.int .u8 (mAt mf ml clamp i)) ∧ w' = w := by
  have hb := hm i
  by_cases hlt : i < ml
  · rcases hs with h | ⟨b, off, rfl, _, hc⟩
    · omega
    · have hcc := hc i hlt
      clear hc hm
      cases clamp with
      | true =>
        have e : mAt mf ml true i = 1 + mf i % 5 := by simp [mAt, hlt]
        rw [e]
        clear e
        go_enter Yba.func18, Yba.ntmps18
        go_wp2
        go_ret
        exact ⟨rfl, rfl⟩
      | false =>
        have e : mAt mf ml false i = mf i := by simp [mAt, hlt]
        rw [e]
        clear e
        go_enter Yba.func18, Yba.ntmps18
        go_wp2
        go_ret
        exact ⟨rfl, rfl⟩
  · clear hm
    cases clamp with
    | true =>
      have e : mAt mf ml true i = 1 := by simp [mAt, hlt]
      rw [e]
      clear e
      go_enter Yba.func18, Yba.ntmps18
      go_wp2
      go_ret
      exact ⟨rfl, rfl⟩
    | false =>
      have e : mAt mf ml false i = 0 := by simp [mAt, hlt]
      rw [e]
      clear e
      go_enter Yba.func18, Yba.ntmps18
      go_wp2
      go_ret
      exact ⟨rfl, rfl⟩

/-- What the table says: the mode. -/
def tMode (fi q : Nat) (fm : Int) (has : Bool) (kf mf : Nat → Int) (ml : Nat) (clamp : Bool) (n : Nat) : Int :=
  if q = fi then fm else if has then lst kf mf ml clamp q n else 0
/-- .. whether it is held. -/
def tHolds (fi q : Nat) (has : Bool) (kf : Nat → Int) (n : Nat) : Bool :=
  if q = fi then decide (q ≠ 4) else has && fnd kf q n

theorem model_any (kf mf : Nat → Int) (ka : Option Addr) (n kc : Nat) (ma : Option Addr) (ml mc : Nat) (fi q : Nat) (fm : Int) (has clamp : Bool) (w : World) (hn : n ≤ 1024) (hml : ml ≤ 9223372036854775807) (hfi : fi < 5) (hq : q < 5)
    (hks : Shows .u8 kf ka n w) (hk : ∀ j, 0 ≤ kf j ∧ kf j ≤ 255) (hms : Shows .u8 mf ma ml w) (hm : ∀ j, 0 ≤ mf j ∧ mf j ≤ 255) :
    Calls Yba.prog 10 #[.int .i64 fi, .int .u8 fm, .bool has, .slice ka n kc, .slice ma ml mc, .bool clamp, .int .i64 q] w fun e w' => e = .returned (.tuple #[.int .u8 (tMode fi q fm has kf mf ml clamp n), .bool (tHolds fi q has kf n)]) ∧ w' = w := by
  by_cases hqf : q = fi
  · have e1 : tMode fi q fm has kf mf ml clamp n = fm := by simp [tMode, hqf]
    have e2 : tHolds fi q has kf n = ((fi : Int) != 4) := by
      simp only [tHolds, hqf, if_true]
      rw [Bool.eq_iff_iff]
      simp
      omega
    rw [e1, e2]
    clear e1 e2
    subst hqf
    go_enter Yba.func10, Yba.ntmps10
    go_wp2_with fail
    go_ret2
    exact ⟨rfl, rfl⟩
  · have hb : ((q : Int) == (fi : Int)) = false := by simp; omega
    cases has with
    | false =>
      have e1 : tMode fi q fm false kf mf ml clamp n = 0 := by simp [tMode, hqf]
      have e2 : tHolds fi q false kf n = false := by simp [tHolds, hqf]
      rw [e1, e2]
      clear e1 e2
      go_enter Yba.func10, Yba.ntmps10
      go_wp2_with fail
      go_ret2
      exact ⟨rfl, rfl⟩
    | true =>
      have e1 : tMode fi q fm true kf mf ml clamp n = lst kf mf ml clamp q n := by simp [tMode, hqf]
      have e2 : tHolds fi q true kf n = fnd kf q n := by simp [tHolds, hqf]
      rw [e1, e2]
      clear e1 e2
      go_enter Yba.func10, Yba.ntmps10
      go_wp2_with fail
      go_loop [16, 17, 18] (fun m f t => ∃ j : Nat, t = .int .i64 j ∧ j ≤ n ∧ m = .int .u8 (lst kf mf ml clamp q j) ∧ f = .bool (fnd kf q j)) (fun _ _ t => n - (intOf t).toNat)
      case atStart => exact ⟨0, rfl, Nat.zero_le _, rfl, rfl⟩
      case round =>
        obtain ⟨j, rfl, hj, rfl, rfl⟩ := hrel
        by_cases hlt : j < n
        · rcases hks with h | ⟨b, off, rfl, _, hc⟩
          · omega
          · have hcc := hc j hlt
            have hkj := hk j
            by_cases hh : kf j % 5 = (q : Int)
            · have e1 : lst kf mf ml clamp q (j + 1) = mAt mf ml clamp j := by simp [lst, hh]
              have e2 : fnd kf q (j + 1) = true := by simp [fnd, hh]
              have E1 : Hid (lst kf mf ml clamp q (j + 1) = mAt mf ml clamp j) := e1
              have E2 : Hid (fnd kf q (j + 1) = true) := e2
              have hb2 : (kf j % 5 == (q : Int)) = true := by simpa using hh
              clear e1 e2 hh hc hk
              go_wp2_with (go_at_call 18; refine (modeat_any mf ma ml mc j clamp _ hml (by omega) hms hm).mono ?_; rintro e w' ⟨rfl, rfl⟩)
              go_round
              case rel => exact ⟨j + 1, by go_num, by omega, by rw [E1.out], by rw [E2.out]⟩
              case measure => simp [intOf]; omega
            · have e1 : lst kf mf ml clamp q (j + 1) = lst kf mf ml clamp q j := by simp [lst, hh]
              have e2 : fnd kf q (j + 1) = fnd kf q j := by simp [fnd, hh]
              have E1 : Hid (lst kf mf ml clamp q (j + 1) = lst kf mf ml clamp q j) := e1
              have E2 : Hid (fnd kf q (j + 1) = fnd kf q j) := e2
              have hb2 : (kf j % 5 == (q : Int)) = false := by simpa using hh
              clear e1 e2 hh hc hk
              go_wp2_with fail
              go_round
              case rel => exact ⟨j + 1, by go_num, by omega, by rw [E1.out], by rw [E2.out]⟩
              case measure => simp [intOf]; omega
        · obtain rfl : j = n := by omega
          go_wp2_with fail
          go_ret2
          exact ⟨rfl, rfl⟩

end Go.Proofs.Ybulkcrkq
