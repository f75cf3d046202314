/- LawS4657BStop: the walk. -/
import Derived.Test.YbulkcrkqStopLook
namespace Go.Proofs.Ybulkcrkq
open Go.ChangeShapes Go.WideShapes Go.ChangeAt Go.RowKit
set_option maxHeartbeats 8000000
set_option maxRecDepth 20000
set_option linter.unusedVariables false

theorem five_new (w : World) (a b c d e : Value) (t1 t2 t3 t4 t5 : TypeId) (w' : World) (hw : ((((w.alloc (.cells #[a] t1)).alloc (.cells #[b] t2)).alloc (.cells #[c] t3)).alloc (.cells #[d] t4)).alloc (.cells #[e] t5) = w') :
    Turned w w' (fun _ => False) ∧ w'.heap.size = w.heap.size + 5 ∧ w'.cell? ⟨w.heap.size, 0, none⟩ = some a ∧ w'.cell? ⟨w.heap.size + 1, 0, none⟩ = some b ∧ w'.cell? ⟨w.heap.size + 1 + 1, 0, none⟩ = some c ∧ w'.cell? ⟨w.heap.size + 1 + 1 + 1, 0, none⟩ = some d ∧ w'.cell? ⟨w.heap.size + 1 + 1 + 1 + 1, 0, none⟩ = some e := by
  subst hw
  obtain ⟨n1, n2, n3, n4⟩ := four_new w a b c d t1 t2 t3 t4
  have n5 := cell_new ((((w.alloc (.cells #[a] t1)).alloc (.cells #[b] t2)).alloc (.cells #[c] t3)).alloc (.cells #[d] t4)) e t5
  simp only [World.size_alloc] at n5
  have T := (Turned.refl ((((w.alloc (.cells #[a] t1)).alloc (.cells #[b] t2)).alloc (.cells #[c] t3)).alloc (.cells #[d] t4)) (fun _ => False)).alloc (.cells #[e] t5)
  refine ⟨(((((Turned.refl _ _).alloc _).alloc _).alloc _).alloc _).alloc _, by simp, T.cell n1 (fun h => h), T.cell n2 (fun h => h), T.cell n3 (fun h => h), T.cell n4 (fun h => h), n5⟩

theorem stop_some (sa : Option Addr) (n sc : Nat) (I M : Nat → Int) (W : Nat → Bool) (hI : ∀ j, 0 ≤ I j ∧ I j ≤ 255) (hM : ∀ j, 0 ≤ M j ∧ M j ≤ 255) (set q kk : Int) (hs : 0 ≤ set ∧ set ≤ 255) (hq : 0 ≤ q ∧ q ≤ 255) (hk : 0 ≤ kk ∧ kk ≤ 255) (older : Bool) (hn0 : 0 < n) (hn : n ≤ 300) (w : World) (h : SpecAt w sa n I M W) :
    Calls Yba.prog 6 #[.slice sa n sc, .int .u8 set, .int .u8 q, .bool older, .int .u8 kk] w fun e w' => e = .returned (.bool true) ∧ Turned w w' (fun _ => False) := by
  have T1 : Turned w ((w.alloc (.cells #[.slice sa n sc] 36)).alloc (.cells #[.bool older] 4)) (fun _ => False) := ((Turned.refl _ _).alloc _).alloc _
  have h1 := specAt_turned h T1 (fun _ _ _ h => h)
  have hbd := build_any sa n sc I M W hI hM hn _ h1
  have q1 := Int.emod_nonneg q (show (18 : Int) ≠ 0 by omega)
  have q2 := Int.emod_lt_of_pos q (show (0 : Int) < 18 by omega)
  obtain ⟨k, hkk⟩ : ∃ k : Nat, kk % 8 + 1 = (k : Int) := ⟨(kk % 8 + 1).toNat, by omega⟩
  have hk1 : 1 ≤ k ∧ k ≤ 100 := by omega
  go_enter Yba.func6, Yba.ntmps6
  go_wp2_with (go_at_call 12; refine hbd.mono ?_; rintro e w2 ⟨s, cl, hv, mv, rfl, hB⟩; obtain ⟨hb, hc, rfl, hb1, hb2, hb3, hb4⟩ := own_form hB.hs hn0; obtain ⟨mb, mc, rfl, mb1, mb2, mb3, mb4⟩ := own_form hB.ms hn0)
  obtain ⟨w3, hw3⟩ : ∃ w3, (((((w2.alloc (.cells #[.slice (some ⟨hb, 0, none⟩) n hc] 37)).alloc (.cells #[.slice (some ⟨mb, 0, none⟩) n mc] 38)).alloc (.cells #[.int .u8 set] 41)).alloc (.cells #[.int .u64 (q % 18)] 42)).alloc (.cells #[.int .i64 (k : Int)] 3)) = w3 := ⟨_, rfl⟩
  rw [hw3]
  obtain ⟨T23, sz3, e1, e2, e3, e4, e5⟩ := five_new _ _ _ _ _ _ _ _ _ _ _ _ hw3
  have hBt : Built w ((w.alloc (.cells #[.slice sa n sc] 36)).alloc (.cells #[.bool older] 4)) w2 w3 I M W s n hb hc mb mc cl := ⟨hB, T1, T23⟩
  have f1 : ((w.alloc (.cells #[.slice sa n sc] 36)).alloc (.cells #[.bool older] 4)).cell? ⟨w.heap.size, 0, none⟩ = some (.slice sa n sc) := ((Turned.refl _ (fun _ => False)).alloc _).cell (cell_new w _ _) (fun h => h)
  have f2 : ((w.alloc (.cells #[.slice sa n sc] 36)).alloc (.cells #[.bool older] 4)).cell? ⟨w.heap.size + 1, 0, none⟩ = some (.bool older) := by
    have := cell_new (w.alloc (.cells #[.slice sa n sc] 36)) (.bool older) 4
    simpa only [World.size_alloc] using this
  have g1 := T23.cell (hB.turn.cell f1 (fun h => h)) (fun h => h)
  have g2 := T23.cell (hB.turn.cell f2 (fun h => h)) (fun h => h)
  have hE3 := hBt.env hn0 e1 g1 e2 e3 e4 g2 h
  have z2 := hB.turn.size
  simp only [World.size_alloc] at z2
  have sz3' : w2.heap.size + 5 ≤ w3.heap.size := by omega
  clear hbd hw3 hb3 hb4 mb3 mb4 f1 f2 h1 hkk sz3
  obtain ⟨p, hp⟩ : ∃ p, p = qual I M W set (q % 18) older := ⟨_, rfl⟩
  have HP : Hid (p = qual I M W set (q % 18) older) := hp
  clear hp
  go_loopw [17, 18] (fun t17 t18 wr => ∃ j : Nat, t17 = .int .i64 ((cq p j : Nat) : Int) ∧ t18 = .int .i64 (j : Int) ∧ j ≤ n ∧ wr = w3) (fun _ t18 _ => n - (intOf t18).toNat)
  case atStart => exact ⟨0, by rw [cq_zero]; rfl, rfl, by omega, rfl⟩
  case round =>
    obtain ⟨j, rfl, rfl, hj, rfl⟩ := hrel
    have hcj := cq_le p j
    by_cases hlt : j < n
    · have hql := qual_any sa n sc mb mc I M W hI hM (by omega) set (q % 18) hs (by omega) older j hlt wr hE3.spec (hE3.modes j hlt)
      rw [← HP.out] at hql
      cases hpj : p j with
      | true =>
        rw [hpj] at hql
        have HS : Hid (((cq p (j + 1) : Nat) : Int) = (cq p j : Int) + 1) := by
          show ((cq p (j + 1) : Nat) : Int) = _
          rw [cq_succ, hpj]
          simp
        clear hpj
        go_wp2_with (go_at_call 13; refine hql.mono ?_; rintro e w' ⟨rfl, rfl⟩)
        go_roundw
        case rel =>
          refine ⟨j + 1, ?_, ?_, by omega, trivial⟩
          · rw [HS.out]
          · go_num
        case measure => simp [intOf]; omega
      | false =>
        rw [hpj] at hql
        have HS : Hid (((cq p (j + 1) : Nat) : Int) = (cq p j : Int)) := by
          show ((cq p (j + 1) : Nat) : Int) = _
          rw [cq_succ, hpj]
          simp
        clear hpj
        go_wp2_with (go_at_call 13; refine hql.mono ?_; rintro e w' ⟨rfl, rfl⟩)
        go_roundw
        case rel =>
          refine ⟨j + 1, ?_, ?_, by omega, trivial⟩
          · rw [HS.out]
          · go_num
        case measure => simp [intOf]; omega
    · obtain rfl : j = n := by omega
      have hBt4 := hBt.turned (((Turned.refl wr (fun _ => False)).alloc (.cells #[.int .i64 0] 3)).alloc (.cells #[.bool true] 4))
      have T34 : Turned wr ((wr.alloc (.cells #[.int .i64 0] 3)).alloc (.cells #[.bool true] 4)) (fun _ => False) := ((Turned.refl wr (fun _ => False)).alloc _).alloc _
      have hE4 := hE3.turned hB.len T34 (fun _ _ h => h)
      have o1 := cell_new (wr.alloc (.cells #[.int .i64 0] 3)) (.bool true) 4
      simp only [World.size_alloc] at o1
      have o2 : RowAt ((wr.alloc (.cells #[.int .i64 0] 3)).alloc (.cells #[.bool true] 4)) wr.heap.size 3 1 (fun _ => .int .i64 0) := (row_lit wr #[.int .i64 0] 3 1 rfl _ (fun i hi => by
        have e0 : i = 0 := by omega
        subst e0
        rfl)).alloc _
      have hlk := stop_look hBt4 hI hM hn0 hn hs (by omega) hk1 hE4 o1 o2 (T34.cell e5 (fun h => h)) (by
        intro b hb
        simp at hb
        omega) (by
        intro b hb
        simp at hb
        simp
        omega) (by
        simp
        omega) ⟨hb1, hb2⟩ ⟨mb1, mb2⟩ (by
        intro b off hb
        rcases h.all with h0 | ⟨b', off', rfl, hbb, _⟩
        · omega
        · cases hb
          exact hbb)
      rw [← HP.out] at hlk
      obtain ⟨cn, hcn⟩ : ∃ cn, cn = cq p j := ⟨_, rfl⟩
      rw [← hcn] at hlk hcj ⊢
      have x3 := T34.cell e3 (fun h => h)
      have x4 := T34.cell e4 (fun h => h)
      have x6 := T34.cell g2 (fun h => h)
      clear hcn HP hBt hBt4 hE3 hE4 hB hM hI e2 e3 e4 e5 g1 g2 o2 o1
      go_wp2_with first
        | (go_at_call 14; refine hlk.mono ?_; rintro e w5 ⟨S1, S2, S3, S4, rfl, hseq⟩)
        | (go_at_call 22; refine hseq.mono ?_; rintro e w6 ⟨rfl, r1, r2, r3, T6⟩)
      have hmin : ((((min k cn : Nat) : Int)) == min (k : Int) (cn : Int)) = true := by simp; omega
      rw [hmin]
      go_ret
      exact ⟨rfl, T6⟩

theorem own_zero {w : World} {base : Nat} {e : TypeId} {v : Value} {xs : List Value} (h : w.ownsRow base e 1 v 0 xs) : ∃ a cap, v = .slice a 0 cap := by
  rcases h.2 with ⟨rfl, _⟩ | ⟨g, cap, cur, rfl, _⟩
  · exact ⟨none, 0, rfl⟩
  · exact ⟨_, cap, rfl⟩

theorem stop_none (sa : Option Addr) (sc : Nat) (set q kk : Int) (hs : 0 ≤ set ∧ set ≤ 255) (hq : 0 ≤ q ∧ q ≤ 255) (hk : 0 ≤ kk ∧ kk ≤ 255) (older : Bool) (w : World) :
    Calls Yba.prog 6 #[.slice sa 0 sc, .int .u8 set, .int .u8 q, .bool older, .int .u8 kk] w fun e w' => e = .returned (.bool true) ∧ Turned w w' (fun _ => False) := by
  have T1 : Turned w ((w.alloc (.cells #[.slice sa 0 sc] 36)).alloc (.cells #[.bool older] 4)) (fun _ => False) := ((Turned.refl _ _).alloc _).alloc _
  have hbd := build_any sa 0 sc (fun _ => 0) (fun _ => 0) (fun _ => false) (by simp) (by simp) (by omega) ((w.alloc (.cells #[.slice sa 0 sc] 36)).alloc (.cells #[.bool older] 4)) ⟨.inl rfl⟩
  have q1 := Int.emod_nonneg q (show (18 : Int) ≠ 0 by omega)
  have q2 := Int.emod_lt_of_pos q (show (0 : Int) < 18 by omega)
  obtain ⟨k, hkk⟩ : ∃ k : Nat, kk % 8 + 1 = (k : Int) := ⟨(kk % 8 + 1).toNat, by omega⟩
  have hk1 : 1 ≤ k ∧ k ≤ 100 := by omega
  go_enter Yba.func6, Yba.ntmps6
  go_wp2_with (go_at_call 12; refine hbd.mono ?_; rintro e w2 ⟨s, cl, hv, mv, rfl, hB⟩; obtain ⟨ha, hc, rfl⟩ := own_zero hB.hs; obtain ⟨ma, mc, rfl⟩ := own_zero hB.ms)
  obtain ⟨w3, hw3⟩ : ∃ w3, (((((w2.alloc (.cells #[.slice ha 0 hc] 37)).alloc (.cells #[.slice ma 0 mc] 38)).alloc (.cells #[.int .u8 set] 41)).alloc (.cells #[.int .u64 (q % 18)] 42)).alloc (.cells #[.int .i64 (k : Int)] 3)) = w3 := ⟨_, rfl⟩
  rw [hw3]
  obtain ⟨T23, sz3, e1, e2, e3, e4, e5⟩ := five_new _ _ _ _ _ _ _ _ _ _ _ _ hw3
  have f2 : ((w.alloc (.cells #[.slice sa 0 sc] 36)).alloc (.cells #[.bool older] 4)).cell? ⟨w.heap.size + 1, 0, none⟩ = some (.bool older) := by
    have := cell_new (w.alloc (.cells #[.slice sa 0 sc] 36)) (.bool older) 4
    simpa only [World.size_alloc] using this
  have g2 := T23.cell (hB.turn.cell f2 (fun h => h)) (fun h => h)
  obtain ⟨oth, m, cnt, v, hset, _⟩ := hB.set
  have hcl : cl = [] := List.length_eq_zero_iff.1 hB.len
  subst hcl
  have r0 := T23.cell (hset.row.cell (j := 0) (by omega)) (fun h => h)
  simp [hsRow] at r0
  have T3 : Turned w w3 (fun _ => False) := (T1.trans (hB.turn.mono (fun _ _ h => h.elim))).trans (T23.mono (fun _ _ h => h.elim))
  clear hbd hw3 f2 hkk sz3 hset hB T1 T23
  go_loopw [17, 18] (fun t17 t18 wr => t17 = .int .i64 0 ∧ t18 = .int .i64 0 ∧ wr = w3) (fun _ _ _ => 0)
  case atStart => exact ⟨rfl, rfl, rfl⟩
  case round =>
    obtain ⟨rfl, rfl, rfl⟩ := hrel
    have T34 : Turned wr ((wr.alloc (.cells #[.int .i64 0] 3)).alloc (.cells #[.bool true] 4)) (fun _ => False) := ((Turned.refl wr (fun _ => False)).alloc _).alloc _
    have o1 := cell_new (wr.alloc (.cells #[.int .i64 0] 3)) (.bool true) 4
    simp only [World.size_alloc] at o1
    have o2 : ((wr.alloc (.cells #[.int .i64 0] 3)).alloc (.cells #[.bool true] 4)).cell? ⟨wr.heap.size, 0, none⟩ = some (.int .i64 0) := ((Turned.refl _ (fun _ => False)).alloc _).cell (cell_new wr _ _) (fun h => h)
    have x3 := T34.cell e3 (fun h => h)
    have x4 := T34.cell e4 (fun h => h)
    have x5 := T34.cell e5 (fun h => h)
    have x6 := T34.cell g2 (fun h => h)
    have x0 := T34.cell r0 (fun h => h)
    have hlk : Calls Yba.prog 14 #[.pointer (some ⟨s, 0, none⟩), .int .u8 set, .int .u64 (q % 18), .bool older] ((wr.alloc (.cells #[.int .i64 0] 3)).alloc (.cells #[.bool true] 4)) fun e w5 => ∃ S1 S2 S3 S4, e = .returned (.func (.func 22) #[] #[.pointer (some ⟨S1, 0, none⟩), .pointer (some ⟨S2, 0, none⟩), .pointer (some ⟨S3, 0, none⟩), .pointer (some ⟨S4, 0, none⟩)]) ∧
        ∀ caps, Calls Yba.prog 22 #[.func (.func 17) #[] caps, .pointer (some ⟨S1, 0, none⟩), .pointer (some ⟨S2, 0, none⟩), .pointer (some ⟨S3, 0, none⟩), .pointer (some ⟨S4, 0, none⟩)] w5 fun e w6 => e = .returned (.tuple #[]) ∧ w6.cell? ⟨wr.heap.size + 1, 0, none⟩ = some (.bool true) ∧ w6.cell? ⟨wr.heap.size, 0, none⟩ = some (.int .i64 0) ∧ w6.cell? ⟨w2.heap.size + 1 + 1 + 1 + 1, 0, none⟩ = some (.int .i64 (k : Int)) ∧ Turned w w6 (fun _ => False) := by
      refine (ofAge14 s set (q % 18) older _).mono ?_
      rintro e w5 ⟨rfl, hw5⟩
      refine ⟨_, _, _, _, rfl, fun caps => ?_⟩
      obtain ⟨y1, y2, y3, y4⟩ := four_new ((wr.alloc (.cells #[.int .i64 0] 3)).alloc (.cells #[.bool true] 4)) (.pointer (some ⟨s, 0, none⟩)) (.int .u8 set) (.int .u64 (q % 18)) (.bool older) 27 41 42 4
      rw [hw5] at y1
      have T5 : Turned ((wr.alloc (.cells #[.int .i64 0] 3)).alloc (.cells #[.bool true] 4)) w5 (fun _ => False) := by
        rw [← hw5]
        exact ((((Turned.refl _ _).alloc _).alloc _).alloc _).alloc _
      refine (seq_empty 17 caps _ _ _ _ s w5 y1 (T5.cell x0 (fun h => h))).mono ?_
      rintro e w6 ⟨rfl, T6⟩
      have T56 := T5.trans (T6.mono (fun _ _ h => h.elim))
      exact ⟨rfl, T56.cell o1 (fun h => h), T56.cell o2 (fun h => h), T56.cell x5 (fun h => h), (T3.trans (T34.mono (fun _ _ h => h.elim))).trans (T56.mono (fun _ _ h => h.elim))⟩
    clear r0 x0 x5 o1 o2 e2 e3 e4 e5 g2
    go_wp2_with first
      | (go_at_call 14; refine hlk.mono ?_; rintro e w5 ⟨S1, S2, S3, S4, rfl, hseq⟩)
      | (go_at_call 22; refine (hseq _).mono ?_; rintro e w6 ⟨rfl, r1, r2, r3, T6⟩)
    have hmin : ((0 : Int) == min (k : Int) 0) = true := by simp; omega
    rw [hmin]
    go_ret
    exact ⟨rfl, T6⟩

theorem stop_any (sa : Option Addr) (n sc : Nat) (I M : Nat → Int) (W : Nat → Bool) (hI : ∀ j, 0 ≤ I j ∧ I j ≤ 255) (hM : ∀ j, 0 ≤ M j ∧ M j ≤ 255) (set q kk : Int) (hs : 0 ≤ set ∧ set ≤ 255) (hq : 0 ≤ q ∧ q ≤ 255) (hk : 0 ≤ kk ∧ kk ≤ 255) (older : Bool) (w : World) (h : SpecAt w sa n I M W) :
    Calls Yba.prog 6 #[.slice sa n sc, .int .u8 set, .int .u8 q, .bool older, .int .u8 kk] w fun e w' => e = .returned (.bool true) ∧ Turned w w' (fun _ => False) := by
  by_cases h3 : n ≤ 300
  · by_cases h0 : n = 0
    · subst h0
      exact stop_none sa sc set q kk hs hq hk older w
    · exact stop_some sa n sc I M W hI hM set q kk hs hq hk older (by omega) h3 w h
  · exact stop_long sa n sc set q kk older (by omega) w
end Go.Proofs.Ybulkcrkq
