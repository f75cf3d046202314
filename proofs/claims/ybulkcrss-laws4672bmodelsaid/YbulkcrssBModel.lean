/- LawS4672BModel, walked. -/
import Derived.Test.YbulkcrssArr
namespace Go.Proofs.Ybulkcrss
open Go.ChangeShapes Go.WideShapes Go.ChangeAt Go.RowKit
set_option maxHeartbeats 1000000
set_option maxRecDepth 20000
set_option linter.unusedVariables false

/-- The line below x, the key's number, the reacher, as the law makes them of its arguments. -/
def lBl (Bf : Nat → Int) (x : Nat) : Int := if Bf x % (x + 1) = x then -1 else Bf x % (x + 1)
def lKn (Kf : Nat → Int) (kl x : Nat) : Int := if x < kl then (if Kf x % 5 = 4 then -1 else Kf x % 5) else (x : Int) % 4
def lRc (Rf : Nat → Int) (rl n x : Nat) : Int := if x < rl then Rf x % (n + 1) - 1 else -1

theorem lBl_down (Bf : Nat → Int) : Down (lBl Bf) := by
  intro x
  unfold lBl
  have h1 := Int.emod_nonneg (Bf x) (show (x : Int) + 1 ≠ 0 by omega)
  have h2 := Int.emod_lt_of_pos (Bf x) (show (0 : Int) < (x : Int) + 1 by omega)
  split <;> omega

theorem lKn_bd (Kf : Nat → Int) (kl x : Nat) : -1 ≤ lKn Kf kl x ∧ lKn Kf kl x < 4 := by
  unfold lKn
  have h1 := Int.emod_nonneg (Kf x) (show (5 : Int) ≠ 0 by omega)
  have h2 := Int.emod_lt_of_pos (Kf x) (show (0 : Int) < 5 by omega)
  split
  · split <;> omega
  · omega

theorem lRc_bd (Rf : Nat → Int) (rl n x : Nat) (hn : 0 < n) : -1 ≤ lRc Rf rl n x ∧ lRc Rf rl n x < n := by
  unfold lRc
  have h1 := Int.emod_nonneg (Rf x) (show (n : Int) + 1 ≠ 0 by omega)
  have h2 := Int.emod_lt_of_pos (Rf x) (show (0 : Int) < (n : Int) + 1 by omega)
  split <;> omega

/-- Behind the six makes: six slots, six arrays, nothing filled. -/
def Made (w0 : World) (n : Nat) (bl kn rc : Nat → Int) (s12 s13 s14 s15 s16 s17 : Value) (w : World) : Prop :=
  ∃ eb kb bb db jb cb, s12 = .slice (some ⟨eb, 0, none⟩) n n ∧ s13 = .slice (some ⟨kb, 0, none⟩) n n ∧ s14 = .slice (some ⟨bb, 0, none⟩) n n ∧ s15 = .slice (some ⟨db, 0, none⟩) n n ∧ s16 = .slice (some ⟨jb, 0, none⟩) n n ∧ s17 = .slice (some ⟨cb, 0, none⟩) n n ∧
    AS w0 n bl kn rc eb kb bb db jb cb 0 0 0 w

theorem made_start (w : World) (n : Nat) (bl kn rc : Nat → Int) :
    AS w n bl kn rc w.heap.size (w.heap.size + 1) (w.heap.size + 1 + 1) (w.heap.size + 1 + 1 + 1) (w.heap.size + 1 + 1 + 1 + 1) (w.heap.size + 1 + 1 + 1 + 1 + 1) 0 0 0
      ((((((w.alloc (.cells (madeCells ev0 (n * 16)) 43)).alloc (.cells (zeros (.int .i64 0) n) 3)).alloc (.cells (zeros (.int .i32 0) n) 21)).alloc (.cells (zeros (.int .i32 0) n) 21)).alloc (.cells (zeros (.int .i32 0) n) 21)).alloc (.cells (zeros (.int .i32 0) n) 21)) := by
  have r0 := made_row w ev0 (n * 16) 43
  generalize hA : w.alloc (.cells (madeCells ev0 (n * 16)) 43) = wa at r0 ⊢
  have za : wa.heap.size = w.heap.size + 1 := by rw [← hA]; simp
  have ba : Below w.heap.size w wa := by rw [← hA]; exact (Below.refl _ _).alloc (Nat.le_refl _) _
  have r1 := row_made wa (.int .i64 0) n 3
  generalize hB : wa.alloc (.cells (zeros (.int .i64 0) n) 3) = wb at r1 ⊢
  have zb : wb.heap.size = w.heap.size + 1 + 1 := by rw [← hB]; simp [za]
  have r0 := r0.alloc (.cells (zeros (.int .i64 0) n) 3)
  rw [hB] at r0
  have bb : Below w.heap.size w wb := by rw [← hB]; exact ba.alloc (by omega) _
  have r2 := row_made wb (.int .i32 0) n 21
  generalize hC : wb.alloc (.cells (zeros (.int .i32 0) n) 21) = wc at r2 ⊢
  have zc : wc.heap.size = w.heap.size + 1 + 1 + 1 := by rw [← hC]; simp [zb]
  have r0 := r0.alloc (.cells (zeros (.int .i32 0) n) 21)
  rw [hC] at r0
  have r1 := r1.alloc (.cells (zeros (.int .i32 0) n) 21)
  rw [hC] at r1
  have bc : Below w.heap.size w wc := by rw [← hC]; exact bb.alloc (by omega) _
  have r3 := row_made wc (.int .i32 0) n 21
  generalize hD : wc.alloc (.cells (zeros (.int .i32 0) n) 21) = wd at r3 ⊢
  have zd : wd.heap.size = w.heap.size + 1 + 1 + 1 + 1 := by rw [← hD]; simp [zc]
  have r0 := r0.alloc (.cells (zeros (.int .i32 0) n) 21)
  rw [hD] at r0
  have r1 := r1.alloc (.cells (zeros (.int .i32 0) n) 21)
  rw [hD] at r1
  have r2 := r2.alloc (.cells (zeros (.int .i32 0) n) 21)
  rw [hD] at r2
  have bd : Below w.heap.size w wd := by rw [← hD]; exact bc.alloc (by omega) _
  have r4 := row_made wd (.int .i32 0) n 21
  generalize hE : wd.alloc (.cells (zeros (.int .i32 0) n) 21) = we at r4 ⊢
  have ze : we.heap.size = w.heap.size + 1 + 1 + 1 + 1 + 1 := by rw [← hE]; simp [zd]
  have r0 := r0.alloc (.cells (zeros (.int .i32 0) n) 21)
  rw [hE] at r0
  have r1 := r1.alloc (.cells (zeros (.int .i32 0) n) 21)
  rw [hE] at r1
  have r2 := r2.alloc (.cells (zeros (.int .i32 0) n) 21)
  rw [hE] at r2
  have r3 := r3.alloc (.cells (zeros (.int .i32 0) n) 21)
  rw [hE] at r3
  have be : Below w.heap.size w we := by rw [← hE]; exact bd.alloc (by omega) _
  have r5 := row_made we (.int .i32 0) n 21
  have r0 := r0.alloc (.cells (zeros (.int .i32 0) n) 21)
  have r1 := r1.alloc (.cells (zeros (.int .i32 0) n) 21)
  have r2 := r2.alloc (.cells (zeros (.int .i32 0) n) 21)
  have r3 := r3.alloc (.cells (zeros (.int .i32 0) n) 21)
  have r4 := r4.alloc (.cells (zeros (.int .i32 0) n) 21)
  rw [za] at r1
  rw [zb] at r2
  rw [zc] at r3
  rw [zd] at r4
  rw [ze] at r5
  exact ⟨⟨_, r0, fun i hi => by omega⟩, filled_zero r1 _, filled_zero r2 _, filled_zero r3 _, filled_zero r4 _, filled_zero r5 _, Nat.le_refl _, by omega, be.alloc (by omega) _⟩

theorem ks_start (w : World) : KS (w.alloc (.cells #[.pointer none, .int .i64 0, .pointer none] 47)) w.heap.size (fun _ => 0) := by
  refine .inl ⟨row_lit w _ 47 3 rfl _ (fun j hj => ?_), fun _ _ => rfl, fun r hr => by cases hr⟩
  have h : j = 0 ∨ j = 1 ∨ j = 2 := by omega
  rcases h with rfl | rfl | rfl <;> rfl

/-- The state's places stay below n. -/
def Pl (n : Nat) (p : Nat → Int) : Prop := ∀ k, 0 ≤ p k ∧ p k ≤ n

theorem Pl.put {n : Nat} {p : Nat → Int} (h : Pl n p) (k : Nat) {i : Nat} (hi : i < n) : Pl n (updp p k ((i : Int) + 1)) := by
  intro j
  unfold updp
  split
  · omega
  · exact h j

theorem bmodel_in (Bf Kf Rf Pf : Nat → Int) (ba : Option Addr) (n bc : Nat) (ka : Option Addr) (kl kc : Nat) (ra : Option Addr) (rl rcp : Nat) (pa : Option Addr) (pl pc : Nat) (I : Int) (w : World)
    (hn0 : 0 < n) (hn : n ≤ 1024) (hkl : kl ≤ 9223372036854775807) (hrl : rl ≤ 9223372036854775807) (hpl : pl ≤ 1024) (hI : 0 ≤ I ∧ I ≤ 65535)
    (hB : Shows .u16 Bf ba n w) (hBf : ∀ j, 0 ≤ Bf j ∧ Bf j ≤ 65535) (hK : Shows .u8 Kf ka kl w) (hKf : ∀ j, 0 ≤ Kf j ∧ Kf j ≤ 255) (hR : Shows .u16 Rf ra rl w) (hRf : ∀ j, 0 ≤ Rf j ∧ Rf j ≤ 65535) (hP : Shows .u16 Pf pa pl w) (hPf : ∀ j, 0 ≤ Pf j ∧ Pf j ≤ 65535) :
    Calls Yba.prog 5 #[.slice ba n bc, .slice ka kl kc, .slice ra rl rcp, .slice pa pl pc, .int .u16 I] w fun e w' => e = .returned (.bool true) ∧ Below w.heap.size w w' := by
  have m1 := mkEvs n hn
  have m2 := mkInts 32 3 (.int .i64 0) 8 rfl Yba.underlying32 info3 (by omega) n hn
  have m3 := mkInts 33 21 (.int .i32 0) 4 rfl Yba.underlying33 info21 (by omega) n hn
  have hne : ((n : Int) == 0) = false := by simp; omega
  go_enter Yba.func5, Yba.ntmps5
  go_upto_region 9 with fail
  go_cut [12, 13, 14, 15, 16, 17] (fun s12 s13 s14 s15 s16 s17 wc => Made w n (lBl Bf) (lKn Kf kl) (lRc Rf rl n) s12 s13 s14 s15 s16 s17 wc)
  case first =>
    go_wp2_with fail
    go_meet
    case rel => exact ⟨_, _, _, _, _, _, rfl, rfl, rfl, rfl, rfl, rfl, made_start w n _ _ _⟩
  case rest =>
    obtain ⟨eb, kb, bb, db, jb, cb, rfl, rfl, rfl, rfl, rfl, rfl, hA⟩ := hcut
    clear m1 m2 m3
    go_wp2_with fail
    have hd := lBl_down Bf
    go_loopw [18] (fun t wr => ∃ x : Nat, t = .int .i64 x ∧ x ≤ n ∧ AS w n (lBl Bf) (lKn Kf kl) (lRc Rf rl n) eb kb bb db jb cb x x x wr) (fun t _ => n - (intOf t).toNat)
    case atStart => exact ⟨0, rfl, Nat.zero_le _, hA⟩
    case round =>
      clear hA
      obtain ⟨x, rfl, hx, hS⟩ := hrel
      by_cases hlt : x < n
      · have hBx := hBf x
        have hBs := hB.below hS.bw
        rcases hBs with h | ⟨b1, off1, rfl, hb1, hc1⟩
        · omega
        · have hcB := hc1 x hlt
          clear hc1
          have hm1 := Int.emod_nonneg (Bf x) (show (x : Int) + 1 ≠ 0 by omega)
          have hm2 := Int.emod_lt_of_pos (Bf x) (show (0 : Int) < (x : Int) + 1 by omega)
          go_upto_if 72 with fail
          go_cut [] (fun wc => AS w n (lBl Bf) (lKn Kf kl) (lRc Rf rl n) eb kb bb db jb cb (x + 1) x x wc)
          case first =>
            obtain ⟨v1, hv1⟩ := hS.bel.any hlt
            obtain ⟨v2, hv2⟩ := hS.dep.any hlt
            obtain ⟨v3, hv3⟩ := hS.jmp.any hlt
            have f1 := hS.bel.frozen x
            have f2 := hS.dep.frozen x
            have f3 := hS.jmp.frozen x
            obtain ⟨q1, q2, q3, q4, q5⟩ := hS.o2
            by_cases hbx : Bf x % ((x : Int) + 1) = x
            · have hbb : (Bf x % ((x : Int) + 1) == (x : Int)) = true := by simpa using hbx
              have e1 : lBl Bf x = -1 := by simp [lBl, hbx]
              have e2 : dp (lBl Bf) x = 0 := dp_foot (by rw [e1]; omega)
              have e3 : jp (lBl Bf) x = x := by simp [jp, e1]
              have HS : Hid (AS w n (lBl Bf) (lKn Kf kl) (lRc Rf rl n) eb kb bb db jb cb (x + 1) x x _) := hS.line hlt (v1 := -1) (v2 := 0) (v3 := x) e1.symm (by rw [e2]; rfl) e3.symm
              clear e1 e2 e3 hS hbx
              go_wp2_with fail
              go_meet
              case rel => exact HS.out
            · have hbb : (Bf x % ((x : Int) + 1) == (x : Int)) = false := by simpa using hbx
              obtain ⟨b, hb⟩ : ∃ b : Nat, Bf x % ((x : Int) + 1) = (b : Int) := ⟨(Bf x % ((x : Int) + 1)).toNat, by omega⟩
              have hbl : b < x := by omega
              have e1 : lBl Bf x = (b : Int) := by
                have : ¬ ((b : Int) = (x : Int)) := by omega
                simp [lBl, hb, this]
              have e2 : dp (lBl Bf) x = dp (lBl Bf) b + 1 := dp_step hd e1
              have e3 : jp (lBl Bf) x = (b : Int) := by
                have : ¬ ((b : Int) < 0) := by omega
                simp [jp, e1, this]
              have hcd := hS.dep.cell hx hbl
              have hdle := dp_le hd b
              have HS : Hid (AS w n (lBl Bf) (lKn Kf kl) (lRc Rf rl n) eb kb bb db jb cb (x + 1) x x _) := hS.line hlt (v1 := b) (v2 := (dp (lBl Bf) b : Int) + 1) (v3 := b) e1.symm (by rw [e2]; omega) e3.symm
              clear e1 e2 e3 hS hbx
              go_wp2_with fail
              go_meet
              case rel => exact HS.out
          case rest =>
            obtain ⟨w1, rfl⟩ : ∃ w1 : World, w1 = wc := ⟨_, rfl⟩
            have hS1 := hcut
            clear hS hcB hm1 hm2 hcut
            go_upto_if 107 with fail
            go_cut [20] (fun s20 wc => s20 = .int .i64 (lKn Kf kl x) ∧ AS w n (lBl Bf) (lKn Kf kl) (lRc Rf rl n) eb kb bb db jb cb (x + 1) x x wc)
            case first =>
              by_cases hxk : x < kl
              · have hKx := hKf x
                rcases hK.below hS1.bw with h | ⟨b2, off2, rfl, hb2, hc2⟩
                · omega
                · have hcK := hc2 x hxk
                  clear hc2
                  have hm := Int.emod_lt_of_pos (Kf x) (show (0 : Int) < 5 by omega)
                  have hm0 := Int.emod_nonneg (Kf x) (show (5 : Int) ≠ 0 by omega)
                  by_cases h4 : Kf x % 5 = 4
                  · have h4b : (Kf x % 5 == 4) = true := by simpa using h4
                    have e1 : lKn Kf kl x = -1 := by simp [lKn, hxk, h4]
                    have E1 : Hid (lKn Kf kl x = -1) := e1
                    clear e1 h4
                    go_wp2_with fail
                    go_meet
                    case rel => exact ⟨by rw [E1.out], hS1⟩
                  · have h4b : (Kf x % 5 == 4) = false := by simpa using h4
                    have e1 : lKn Kf kl x = Kf x % 5 := by simp [lKn, hxk, h4]
                    have E1 : Hid (lKn Kf kl x = Kf x % 5) := e1
                    clear e1 h4
                    go_wp2_with fail
                    go_meet
                    case rel => exact ⟨by rw [E1.out], hS1⟩
              · have e1 : lKn Kf kl x = (x : Int) % 4 := by simp [lKn, hxk]
                have E1 : Hid (lKn Kf kl x = (x : Int) % 4) := e1
                clear e1
                go_wp2_with fail
                go_meet
                case rel => exact ⟨by rw [E1.out], hS1⟩
            case rest =>
              obtain ⟨w2, rfl⟩ : ∃ w2 : World, w2 = wc := ⟨_, rfl⟩
              obtain ⟨rfl, hS2⟩ := hcut
              clear hS1
              obtain ⟨v1, hv1⟩ := hS2.ky.any hlt
              have f1 := hS2.ky.frozen x
              obtain ⟨q1, q2, q3, q4, q5⟩ := hS2.o2
              obtain ⟨g, hg, hgk⟩ := hS2.ev
              have hEc : ∀ c, c < 16 → w2.cell? ⟨eb, x * 16 + c, none⟩ = some (g (x * 16 + c)) := fun c hc => hg.cell (by omega)
              have hEc0 : w2.cell? ⟨eb, x * 16, none⟩ = some (g (x * 16)) := hg.cell (by omega)
              have hEf := hg.frozen
              have HS2 : Hid (AS w n (lBl Bf) (lKn Kf kl) (lRc Rf rl n) eb kb bb db jb cb (x + 1) x x w2) := hS2
              clear hS2 hgk hg
              go_upto_region 27 with fail
              go_cut [] (fun wc => AS w n (lBl Bf) (lKn Kf kl) (lRc Rf rl n) eb kb bb db jb cb (x + 1) (x + 1) x wc)
              case first =>
                go_wp2_with fail
                go_meet
                case rel => exact HS2.out.evs hlt rfl _ _ _ _ _ _ _ _ _ _ _ _ _ _ _ _ rfl
              case rest =>
                obtain ⟨w3, rfl⟩ : ∃ w3 : World, w3 = wc := ⟨_, rfl⟩
                have hS3 := hcut
                clear hcut HS2 hv1 f1 hEc hEc0 hEf
                go_upto_if 128 with fail
                go_cut [21] (fun s21 wc => s21 = .int .i32 (lRc Rf rl n x) ∧ AS w n (lBl Bf) (lKn Kf kl) (lRc Rf rl n) eb kb bb db jb cb (x + 1) (x + 1) x wc)
                case first =>
                  by_cases hxr : x < rl
                  · have hRx := hRf x
                    rcases hR.below hS3.bw with h | ⟨b2, off2, rfl, hb2, hc2⟩
                    · omega
                    · have hcR := hc2 x hxr
                      clear hc2
                      have hm := Int.emod_lt_of_pos (Rf x) (show (0 : Int) < (n : Int) + 1 by omega)
                      have hm0 := Int.emod_nonneg (Rf x) (show (n : Int) + 1 ≠ 0 by omega)
                      have e1 : lRc Rf rl n x = Rf x % ((n : Int) + 1) - 1 := by simp [lRc, hxr]
                      have E1 : Hid (lRc Rf rl n x = Rf x % ((n : Int) + 1) - 1) := e1
                      clear e1
                      go_wp2_with fail
                      go_meet
                      case rel => exact ⟨by rw [E1.out], hS3⟩
                  · have e1 : lRc Rf rl n x = -1 := by simp [lRc, hxr]
                    have E1 : Hid (lRc Rf rl n x = -1) := e1
                    clear e1
                    go_wp2_with fail
                    go_meet
                    case rel => exact ⟨by rw [E1.out], hS3⟩
                case rest =>
                  obtain ⟨rfl, hS4⟩ := hcut
                  clear hS3
                  obtain ⟨v1, hv1⟩ := hS4.rch.any hlt
                  have f1 := hS4.rch.frozen x
                  go_wp2_with fail
                  go_roundw
                  case rel => exact ⟨x + 1, by go_num, by omega, hS4.reach hlt rfl⟩
                  case measure => simp [intOf]; omega
      · obtain rfl : x = n := by omega
        clear hBf hKf hRf hB hK hR hd hne hlt
        go_wp2_with fail
        have hSa := hS.below ((Below.refl _ _).alloc (Nat.le_refl _) (.cells #[.pointer none, .int .i64 0, .pointer none] 47))
        have hPs := hP.below hS.bw
        obtain ⟨wo, rfl⟩ : ∃ wo : World, wo = wr := ⟨_, rfl⟩
        go_loopw [145] (fun t wr => ∃ (j : Nat) (p : Nat → Int), t = .int .i64 j ∧ j ≤ pl ∧ KS wr wo.heap.size p ∧ Pl x p ∧ Below wo.heap.size wo wr) (fun t _ => pl - (intOf t).toNat)
        case atStart => exact ⟨0, fun _ => 0, rfl, Nat.zero_le _, ks_start wo, fun k => by simp, (Below.refl _ _).alloc (Nat.le_refl _) _⟩
        case round =>
          obtain ⟨j, p, rfl, hj, hKS, hPl, hBw⟩ := hrel
          by_cases hjl : j < pl
          · rcases hPs.below hBw with h | ⟨b2, off2, rfl, hb2, hc2⟩
            · omega
            · have hcP := hc2 j hjl
              have hPj := hPf j
              have hm := Int.emod_lt_of_pos (Pf j) (show (0 : Int) < 4 by omega)
              have hm0 := Int.emod_nonneg (Pf j) (show (4 : Int) ≠ 0 by omega)
              clear hc2
              obtain ⟨k, hk⟩ : ∃ k : Nat, Pf j % 4 = (k : Int) := ⟨(Pf j % 4).toNat, by omega⟩
              have hk4 : k < 4 := by omega
              have hi0 := Int.emod_nonneg (Pf j / 4) (show (x : Int) ≠ 0 by omega)
              have hi1 := Int.emod_lt_of_pos (Pf j / 4) (show (0 : Int) < (x : Int) by omega)
              obtain ⟨i, hi⟩ : ∃ i : Nat, Pf j / 4 % (x : Int) = (i : Int) := ⟨(Pf j / 4 % (x : Int)).toNat, by omega⟩
              have hix : i < x := by omega
              clear hm hm0 hi0 hi1
              go_wp2_with fail
              refine (kput_any hKS k i hk4 (by omega) (fun j => by have := hPl j; omega)).mono ?_
              rintro e w3 ⟨⟨a1, a2, rfl⟩, hK3, hB3⟩
              go_wp2_with fail
              go_roundw
              case rel => exact ⟨j + 1, updp p k ((i : Int) + 1), by go_num, by omega, hK3, hPl.put k hix, hBw.trans hB3⟩
              case measure => simp [intOf]; omega
          · clear hPs hPf hP
            have hI0 := Int.emod_nonneg I (show (x : Int) ≠ 0 by omega)
            have hI1 := Int.emod_lt_of_pos I (show (0 : Int) < (x : Int) by omega)
            obtain ⟨i, hi⟩ : ∃ i : Nat, I % (x : Int) = (i : Int) := ⟨(I % (x : Int)).toNat, by omega⟩
            have hix : i < x := by omega
            obtain ⟨hI2, hI3⟩ := hI
            clear hI0 hI1
            obtain ⟨root, own, hKt⟩ : ∃ root own, KSt wr wo.heap.size p root own := by
              rcases hKS with h | ⟨r, o, h⟩
              · exact ⟨_, _, h⟩
              · exact ⟨_, _, h⟩
            have k0 := hKt.row.cell (j := 0) (by omega)
            have k1 := hKt.row.cell (j := 1) (by omega)
            have k2 := hKt.row.cell (j := 2) (by omega)
            have hsl := hKt.row.lt
            have e0 : ksRow root own 0 = pt root := rfl
            have e1 : ksRow root own 1 = .int .i64 0 := rfl
            have e2 : ksRow root own 2 = pt own := rfl
            rw [e0] at k0
            rw [e1] at k1
            rw [e2] at k2
            clear e0 e1 e2
            have hSr := hS.below hBw
            have F : Fit x (lBl Bf) (lKn Kf kl) p := ⟨hn, lBl_down Bf, lKn_bd Kf kl, hPl⟩
            go_wp2_with fail
            have hG := graph_made hSr #[.int .i64 0, .pointer none, .pointer none, .slice none 0 0, .slice (some ⟨eb, 0, none⟩) x x, .map none, .int .i64 0, .slice none 0 0, .int .u64 0, .slice none 0 0, .slice none 0 0]
              #[.slice none 0 0, .pointer (some ⟨wr.heap.size, 0, none⟩), .slice none 0 0, .slice none 0 0, .slice none 0 0, .slice (some ⟨bb, 0, none⟩) x x, .slice (some ⟨db, 0, none⟩) x x, .slice (some ⟨jb, 0, none⟩) x x, .slice (some ⟨cb, 0, none⟩) x x, .slice none 0 0, .slice none 0 0] rfl rfl rfl rfl rfl rfl
            have hGb : Below wr.heap.size wr ((wr.alloc (.cells #[.int .i64 0, .pointer none, .pointer none, .slice none 0 0, .slice (some ⟨eb, 0, none⟩) x x, .map none, .int .i64 0, .slice none 0 0, .int .u64 0, .slice none 0 0, .slice none 0 0] 65)).alloc (.cells #[.slice none 0 0, .pointer (some ⟨wr.heap.size, 0, none⟩), .slice none 0 0, .slice none 0 0, .slice none 0 0, .slice (some ⟨bb, 0, none⟩) x x, .slice (some ⟨db, 0, none⟩) x x, .slice (some ⟨jb, 0, none⟩) x x, .slice (some ⟨cb, 0, none⟩) x x, .slice none 0 0, .slice none 0 0] 72)) :=
              ((Below.refl _ _).alloc (Nat.le_refl _) _).alloc (by simp) _
            have hrc := fun y => lRc_bd Rf rl x y hn0
            refine (hreach_any F (hKt.below hGb) hG hrc i hix).mono ?_
            rintro e w5 ⟨rfl, hB5⟩
            have hw5 : Below wr.heap.size wr w5 := hGb.trans (hB5.mono (by simp; omega))
            have hS5 := hSr.below hw5
            have hK5 := hKt.below hw5
            have k05 := (hw5.cell (p := ⟨wo.heap.size, 0, none⟩) hsl).trans k0
            have k15 := (hw5.cell (p := ⟨wo.heap.size, 1, none⟩) hsl).trans k1
            have k25 := (hw5.cell (p := ⟨wo.heap.size, 2, none⟩) hsl).trans k2
            have hrci := hrc i
            clear hG hGb hB5 k0 k1 k2 hrc
            go_wp2_with fail
            refine (bheld_any F hK5 kb bb i hix hS5.ky.row hS5.bel.row).mono ?_
            rintro e w6 ⟨rfl, hB6⟩
            have hS6 := hS5.below hB6
            have hK6 := hK5.below hB6
            have k06 := (hB6.cell (p := ⟨wo.heap.size, 0, none⟩) hK5.row.lt).trans k05
            have k16 := (hB6.cell (p := ⟨wo.heap.size, 1, none⟩) hK5.row.lt).trans k15
            have k26 := (hB6.cell (p := ⟨wo.heap.size, 2, none⟩) hK5.row.lt).trans k25
            have hcr := hS6.rch.cell (Nat.le_refl _) hix
            have hfin : ∀ w7, Below w6.heap.size w6 w7 → Below w.heap.size w w7 := fun w7 h7 => hS6.bw.trans (h7.mono hS6.bw.size)
            have HR : Hid (hrB (lBl Bf) (lKn Kf kl) p (lRc Rf rl x) i = if hvB (lBl Bf) (lKn Kf kl) p i then true else if 0 ≤ lRc Rf rl x i then hvB (lBl Bf) (lKn Kf kl) p (lRc Rf rl x i).toNat else false) := rfl
            have HV : Hid (hrV (lBl Bf) (lKn Kf kl) p (lRc Rf rl x) i = if hvB (lBl Bf) (lKn Kf kl) p i then hvV (lBl Bf) (lKn Kf kl) p i else if 0 ≤ lRc Rf rl x i then hvV (lBl Bf) (lKn Kf kl) p (lRc Rf rl x i).toNat else 0) := rfl
            clear k05 k15 k25
            cases hbi : hvB (lBl Bf) (lKn Kf kl) p i with
            | true =>
              have e1 : hrB (lBl Bf) (lKn Kf kl) p (lRc Rf rl x) i = true := by rw [HR.out, hbi]; rfl
              have e2 : hrV (lBl Bf) (lKn Kf kl) p (lRc Rf rl x) i = hvV (lBl Bf) (lKn Kf kl) p i := by rw [HV.out, hbi]; rfl
              rw [e1, e2]
              clear e1 e2 hbi
              go_wp2_with fail
              go_ret
              exact ⟨rfl, hfin _ (Below.refl _ _)⟩
            | false =>
              by_cases hneg : lRc Rf rl x i < 0
              · have hng : ¬ 0 ≤ lRc Rf rl x i := by omega
                have e1 : hrB (lBl Bf) (lKn Kf kl) p (lRc Rf rl x) i = false := by rw [HR.out, hbi, if_neg hng]; rfl
                have e2 : hrV (lBl Bf) (lKn Kf kl) p (lRc Rf rl x) i = 0 := by rw [HV.out, hbi, if_neg hng]; rfl
                rw [e1, e2]
                clear e1 e2 hbi
                go_wp2_with fail
                go_ret
                exact ⟨rfl, hfin _ (Below.refl _ _)⟩
              · obtain ⟨y, hy⟩ : ∃ y : Nat, lRc Rf rl x i = (y : Int) := ⟨(lRc Rf rl x i).toNat, by omega⟩
                have hyx : y < x := by omega
                have hpos : 0 ≤ lRc Rf rl x i := by omega
                have e1 : hrB (lBl Bf) (lKn Kf kl) p (lRc Rf rl x) i = hvB (lBl Bf) (lKn Kf kl) p y := by rw [HR.out, hbi, if_pos hpos, hy]; rfl
                have e2 : hrV (lBl Bf) (lKn Kf kl) p (lRc Rf rl x) i = hvV (lBl Bf) (lKn Kf kl) p y := by rw [HV.out, hbi, if_pos hpos, hy]; rfl
                rw [e1, e2]
                rw [hy] at hcr
                clear e1 e2 hbi hpos hneg hy hrci HR HV
                go_wp2_with fail
                refine (bheld_any F hK6 kb bb y hyx hS6.ky.row hS6.bel.row).mono ?_
                rintro e w7 ⟨rfl, hB7⟩
                go_wp2_with fail
                go_ret
                exact ⟨rfl, hfin _ hB7⟩

theorem bmodel_any (Bf Kf Rf Pf : Nat → Int) (ba : Option Addr) (n bc : Nat) (ka : Option Addr) (kl kc : Nat) (ra : Option Addr) (rl rcp : Nat) (pa : Option Addr) (pl pc : Nat) (I : Int) (w : World)
    (hn : n ≤ 9223372036854775807) (hkl : kl ≤ 9223372036854775807) (hrl : rl ≤ 9223372036854775807) (hpl : pl ≤ 9223372036854775807) (hI : 0 ≤ I ∧ I ≤ 65535)
    (hB : Shows .u16 Bf ba n w) (hBf : ∀ j, 0 ≤ Bf j ∧ Bf j ≤ 65535) (hK : Shows .u8 Kf ka kl w) (hKf : ∀ j, 0 ≤ Kf j ∧ Kf j ≤ 255) (hR : Shows .u16 Rf ra rl w) (hRf : ∀ j, 0 ≤ Rf j ∧ Rf j ≤ 65535) (hP : Shows .u16 Pf pa pl w) (hPf : ∀ j, 0 ≤ Pf j ∧ Pf j ≤ 65535) :
    Calls Yba.prog 5 #[.slice ba n bc, .slice ka kl kc, .slice ra rl rcp, .slice pa pl pc, .int .u16 I] w fun e w' => e = .returned (.bool true) ∧ Below w.heap.size w w' := by
  by_cases h0 : n = 0
  · subst h0
    clear hB hBf hK hKf hR hRf hP hPf
    go_enter Yba.func5, Yba.ntmps5
    go_wp2_with fail
    go_ret
    exact ⟨rfl, Below.refl _ _⟩
  · have hne : ((n : Int) == 0) = false := by simp; omega
    by_cases h1 : n ≤ 1024
    · by_cases h2 : pl ≤ 1024
      · exact bmodel_in Bf Kf Rf Pf ba n bc ka kl kc ra rl rcp pa pl pc I w (by omega) h1 hkl hrl h2 hI hB hBf hK hKf hR hRf hP hPf
      · clear hB hBf hK hKf hR hRf hP hPf
        go_enter Yba.func5, Yba.ntmps5
        go_wp2_with fail
        go_ret
        exact ⟨rfl, Below.refl _ _⟩
    · clear hB hBf hK hKf hR hRf hP hPf
      go_enter Yba.func5, Yba.ntmps5
      go_wp2_with fail
      go_ret
      exact ⟨rfl, Below.refl _ _⟩

end Go.Proofs.Ybulkcrss
