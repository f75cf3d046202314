/- spaceEnd and its checker, walked once for both laws. -/
import Derived.Test.YbulkcrssRows
import Derived.WalkKit
import Derived.ProofKit
import Derived.Below
import Derived.WalkSpells
import Derived.WalkLawsBesides
namespace Go.Proofs.Ybulkcrss
open Go.ChangeShapes Go.WideShapes Go.ChangeAt Go.RowKit
set_option maxHeartbeats 400000
set_option linter.unusedVariables false

/-- JSON whitespace, as a number. -/
def Ws (c : Int) : Prop := c = 32 ∨ c = 9 ∨ c = 10 ∨ c = 13

/-- What the answer r of spaceEnd at the start i must be, over the bytes f 0 .. f (len-1). -/
structure SpSpec (f : Nat → Int) (len : Nat) (i r : Int) : Prop where
  out : i < 0 ∨ (len : Int) ≤ i → r = i
  ge : 0 ≤ i → i < len → i ≤ r
  le : 0 ≤ i → i < len → r ≤ len
  all : 0 ≤ i → i < len → ∀ j : Nat, i ≤ j → (j : Int) < r → Ws (f j)
  stop : 0 ≤ i → i < len → r < len → ¬ Ws (f r.toNat)

/-- The row of bytes that the slice (a, len) shows. -/
def Bytes (f : Nat → Int) (a : Option Addr) (len : Nat) (w : World) : Prop :=
  len = 0 ∨ ∃ b off, a = some ⟨b, off, none⟩ ∧ ∀ k, k < len → w.cell? ⟨b, off + k, none⟩ = some (.int .u8 (f k))

theorem sp_out (a : Option Addr) (len cap : Nat) (i : Int) (w : World) (hl : len ≤ 4096) (hi : -9223372036854775808 ≤ i) (hi2 : i ≤ 9223372036854775807) (ho : i < 0 ∨ (len : Int) ≤ i) :
    Calls Yba.prog 6 #[.slice a len cap, .int .i64 i] w fun e w' => e = .returned (.int .i64 i) ∧ w' = w := by
  rcases ho with ho | ho
  · obtain ⟨U, hU, hge⟩ : ∃ U, IntKind.u64.wrap i = U ∧ 4097 ≤ U := ⟨_, rfl, by rw [IntKind.wrap_u64]; omega⟩
    go_enter Yba.func6, Yba.ntmps6
    go_wp2
    refine wp_loop_rounds 1 ?_
    rw [rounds_succ]
    go_wp2
    go_ret
    exact ⟨rfl, rfl⟩
  · have h0 : 0 ≤ i := by omega
    go_enter Yba.func6, Yba.ntmps6
    go_wp2
    refine wp_loop_rounds 1 ?_
    rw [rounds_succ]
    go_wp2
    go_ret
    exact ⟨rfl, rfl⟩

theorem sp_in (f : Nat → Int) (b off : Nat) (len cap : Nat) (i : Int) (w : World) (hl : len ≤ 4096) (h0 : 0 ≤ i) (hlen : i < len)
   (hc : ∀ k, k < len → w.cell? ⟨b, off + k, none⟩ = some (.int .u8 (f k))) :
    Calls Yba.prog 6 #[.slice (some ⟨b, off, none⟩) len cap, .int .i64 i] w fun e w' => (∃ r : Int, e = .returned (.int .i64 r) ∧ SpSpec f len i r) ∧ w' = w := by
  go_enter Yba.func6, Yba.ntmps6
  go_wp2
  go_loop [1] (fun t => ∃ k : Nat, t = .int .i64 k ∧ i ≤ k ∧ k ≤ len ∧ ∀ j : Nat, i ≤ j → j < k → Ws (f j)) (fun t => len - (intOf t).toNat)
  case atStart => exact ⟨i.toNat, by congr 1; omega, by omega, by omega, fun j h1 h2 => by omega⟩
  case round =>
    obtain ⟨k, rfl, hk1, hk2, hall⟩ := hrel
    have HA : Hid (∀ j : Nat, i ≤ j → j < k → Ws (f j)) := hall
    clear hall
    by_cases hlt : k < len
    · have hcc := hc k hlt
      clear hc
      by_cases hw : Ws (f k)
      · have HW : Hid (Ws (f k)) := hw
        rcases hw with h | h | h | h
        all_goals
          go_wp2
          go_round
          case rel => exact ⟨k + 1, by go_num, by omega, by omega, fun j h1 h2 => by
            by_cases e : j = k
            · subst e; exact HW.out
            · exact HA.out j h1 (by omega)⟩
          case measure => simp [intOf]; omega
      · have HW : Hid (¬ Ws (f k)) := hw
        have n1 : (f k != 32) = true := by simp [Ws] at hw ⊢; omega
        have n2 : (f k != 9) = true := by simp [Ws] at hw ⊢; omega
        have n3 : (f k != 10) = true := by simp [Ws] at hw ⊢; omega
        have n4 : (f k != 13) = true := by simp [Ws] at hw ⊢; omega
        clear hw
        go_wp2
        all_goals
          go_ret
          exact ⟨⟨k, rfl, ⟨fun h => by omega, fun _ _ => hk1, fun _ _ => by omega, fun _ _ j h1 h2 => HA.out j h1 (by omega), fun _ _ _ => by simpa using HW.out⟩⟩, rfl⟩
    · go_wp2
      go_ret
      exact ⟨⟨k, rfl, ⟨fun h => by omega, fun _ _ => hk1, fun _ _ => by omega, fun _ _ j h1 h2 => HA.out j h1 (by omega), fun _ _ h => by omega⟩⟩, rfl⟩

/-- spaceEnd, at any bytes and any start. -/
theorem sp_any (f : Nat → Int) (a : Option Addr) (len cap : Nat) (i : Int) (w : World) (hl : len ≤ 4096) (hi : -9223372036854775808 ≤ i) (hi2 : i ≤ 9223372036854775807) (hb : Bytes f a len w) :
    Calls Yba.prog 6 #[.slice a len cap, .int .i64 i] w fun e w' => (∃ r : Int, e = .returned (.int .i64 r) ∧ SpSpec f len i r) ∧ w' = w := by
  by_cases ho : i < 0 ∨ (len : Int) ≤ i
  · refine (sp_out a len cap i w hl hi hi2 ho).mono ?_
    rintro e w' ⟨rfl, rfl⟩
    exact ⟨⟨i, rfl, ⟨fun _ => rfl, fun _ _ => by omega, fun _ _ => by omega, fun _ _ => by omega, fun _ _ => by omega⟩⟩, rfl⟩
  · rcases hb with rfl | ⟨b, off, rfl, hc⟩
    · omega
    · exact sp_in f b off len cap i w hl (by omega) (by omega) hc

theorem ws_yes (c : Int) (w : World) (h : Ws c) : Calls Yba.prog 11 #[.int .u8 c] w fun e w' => e = .returned (.bool true) ∧ w' = w := by
  rcases h with rfl | rfl | rfl | rfl
  all_goals
    go_enter Yba.func11, Yba.ntmps11
    go_wp2
    go_ret
    exact ⟨rfl, rfl⟩

theorem ws_no (c : Int) (w : World) (h : ¬ Ws c) : Calls Yba.prog 11 #[.int .u8 c] w fun e w' => e = .returned (.bool false) ∧ w' = w := by
  have n1 : (c == 32) = false := by simp [Ws] at h ⊢; omega
  have n2 : (c == 9) = false := by simp [Ws] at h ⊢; omega
  have n3 : (c == 10) = false := by simp [Ws] at h ⊢; omega
  have n4 : (c == 13) = false := by simp [Ws] at h ⊢; omega
  clear h
  go_enter Yba.func11, Yba.ntmps11
  go_wp2
  go_ret
  exact ⟨rfl, rfl⟩

theorem chk_out (a : Option Addr) (len cap : Nat) (i : Int) (w : World) (hl : len ≤ 4096) (ho : i < 0 ∨ (len : Int) ≤ i) :
    Calls Yba.prog 7 #[.slice a len cap, .int .i64 i, .int .i64 i] w fun e w' => e = .returned (.bool true) ∧ w' = w := by
  by_cases h0 : i < 0
  · go_enter Yba.func7, Yba.ntmps7
    go_wp2
    go_ret
    exact ⟨rfl, rfl⟩
  · have h1 : (len : Int) ≤ i := by omega
    go_enter Yba.func7, Yba.ntmps7
    go_wp2
    go_ret
    exact ⟨rfl, rfl⟩

theorem chk_in (f : Nat → Int) (b off : Nat) (len cap : Nat) (i r : Int) (w : World) (hl : len ≤ 4096) (h0 : 0 ≤ i) (hlen : i < len)
   (hc : ∀ k, k < len → w.cell? ⟨b, off + k, none⟩ = some (.int .u8 (f k))) (hs : SpSpec f len i r) :
    Calls Yba.prog 7 #[.slice (some ⟨b, off, none⟩) len cap, .int .i64 i, .int .i64 r] w fun e w' => e = .returned (.bool true) ∧ w' = w := by
  have hge := hs.ge h0 hlen
  have hle := hs.le h0 hlen
  have HA : Hid (∀ j : Nat, i ≤ j → (j : Int) < r → Ws (f j)) := hs.all h0 hlen
  have HS : Hid (r < len → ¬ Ws (f r.toNat)) := hs.stop h0 hlen
  clear hs
  go_enter Yba.func7, Yba.ntmps7
  go_wp2
  go_loop [8] (fun t => ∃ k : Nat, t = .int .i64 k ∧ i ≤ k ∧ (k : Int) ≤ r) (fun t => len - (intOf t).toNat)
  case atStart => exact ⟨i.toNat, by congr 1; omega, by omega, by omega⟩
  case round =>
    obtain ⟨k, rfl, hk1, hk2⟩ := hrel
    by_cases hlt : (k : Int) < r
    · have hcc := hc k (by omega)
      clear hc
      have hw := HA.out k hk1 hlt
      have HW : Hid (Ws (f k)) := hw
      clear hw
      go_wp2_with (go_at_call 11; refine (ws_yes _ _ HW.out).mono ?_; rintro e w' ⟨rfl, rfl⟩)
      go_round
      case rel => exact ⟨k + 1, by go_num, by omega, by omega⟩
      case measure => simp [intOf]; omega
    · have e : r = k := by omega
      subst e
      by_cases hn : (k : Int) = len
      · obtain rfl : k = len := by omega
        go_wp2_with fail
        go_ret
        exact ⟨rfl, rfl⟩
      · have hcc := hc k (by omega)
        have hw2 : ¬ Ws (f k) := by simpa using HS.out (by omega)
        have HW : Hid (¬ Ws (f k)) := hw2
        have hne : ((k : Int) == (len : Int)) = false := by simp; omega
        clear hc HA HS hw2
        go_wp2_with (go_at_call 11; refine (ws_no _ _ HW.out).mono ?_; rintro e w' ⟨rfl, rfl⟩)
        go_ret
        exact ⟨rfl, rfl⟩

/-- The checker says yes to what spaceEnd must answer. -/
theorem chk_any (f : Nat → Int) (a : Option Addr) (len cap : Nat) (i r : Int) (w : World) (hl : len ≤ 4096) (hb : Bytes f a len w) (hs : SpSpec f len i r) :
    Calls Yba.prog 7 #[.slice a len cap, .int .i64 i, .int .i64 r] w fun e w' => e = .returned (.bool true) ∧ w' = w := by
  by_cases ho : i < 0 ∨ (len : Int) ≤ i
  · rw [hs.out ho]
    exact chk_out a len cap i w hl ho
  · rcases hb with rfl | ⟨b, off, rfl, hc⟩
    · omega
    · exact chk_in f b off len cap i r w hl (by omega) (by omega) hc hs

end Go.Proofs.Ybulkcrss
