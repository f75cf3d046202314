/- LawS4657BExact: the walk. -/
import Derived.Test.YbulkcrkqExactLook
namespace Go.Proofs.Ybulkcrkq
open Go.ChangeShapes Go.WideShapes Go.ChangeAt Go.RowKit
set_option maxHeartbeats 8000000
set_option maxRecDepth 20000
set_option linter.unusedVariables false

theorem exact_long (sa : Option Addr) (n sc : Nat) (set q : Int) (older : Bool) (hn : 300 < n) (w : World) :
    Calls Yba.prog 5 #[.slice sa n sc, .int .u8 set, .int .u8 q, .bool older] w fun e w' => e = .returned (.bool true) ∧ Turned w w' (fun _ => False) := by
  go_enter Yba.func5, Yba.ntmps5
  go_wp2_with fail
  go_ret
  exact ⟨rfl, ((Turned.refl _ _).alloc _).alloc _⟩

theorem info4 : (Yba.prog.info? 4).map (fun i => (i.zero, i.size, i.bytes)) = some (some (.bool false), 1, 1) := by kernel_rfl

theorem make44 (n : Nat) (hn : n ≤ 10000) (w : World) :
    (Instr.makeSlice 44 (.int .i64 (n : Int)) (.int .i64 (n : Int))).run Yba.prog w = .ok (.slice (some ⟨w.heap.size, 0, none⟩) n n) (w.alloc (.cells (zeros (.bool false) n) 4)) := by
  obtain ⟨i0, hi, he⟩ := Option.map_eq_some_iff.1 info4
  simp only [Prod.mk.injEq] at he
  obtain ⟨hz0, hzs, hz2⟩ := he
  have h := run_make (P := Yba.prog) w 44 4 i0 (.bool false) Yba.underlying44 hi hz0 .i64 .i64 (n : Int) (n : Int) (by omega) (by omega) (by rw [hz2]; omega) (by omega)
  rw [h]
  simp [hzs, Value.cells, zeros]

theorem mode_is {w0 w1 w2 w : World} {H Sp Ms St Id Od : Nat} {sa : Option Addr} {n sc hb hc mb mc : Nat} {I M : Nat → Int} {W : Nat → Bool} {s c0 : Nat} {kc : List Nat} {oth : Option Nat} {m : Nat} {cnt : Nat → Int} {set q : Int} {older : Bool}
    (hP : PassInv w0 w1 w2 H Sp Ms St Id Od sa n sc hb hc mb mc I M W s c0 kc oth m cnt set q older w) (hl : (c0 :: kc).length = n) (hnd : (c0 :: kc).Nodup) {w' : World} (hT : Turned w w' (fun _ => False)) {j : Nat} (hj : j < n) :
    Calls Yba.prog 9 #[.pointer (some ⟨s, 0, none⟩), .pointer (some ⟨(c0 :: kc).getD j 0, 0, none⟩)] w' fun e w'' => e = .returned (.tuple #[.int .u8 (M j % 5 + 1), .bool true]) ∧ Turned w' w'' (fun _ => False) := by
  obtain ⟨age, v, hset, hv1, _⟩ := hP.set
  have hset' := hset_keep hset hT (fun h => h) (fun _ _ h => h) (fun _ _ => ⟨fun h => h, fun h => h⟩)
  have hk : OkKey w' (key ((c0 :: kc).getD j 0)) := (hP.env.cell j hj).1.turned hT (fun h => h)
  refine (mode_any hset' (key ((c0 :: kc).getD j 0)) hk).mono ?_
  rintro e w'' ⟨rfl, hb⟩
  refine ⟨?_, ⟨hb.os, hb.tape, hb.output, hb.size, fun b hb' _ => hb.block b hb'⟩⟩
  by_cases e : j = 0
  · subst e
    have e1 : (c0 :: kc).getD 0 0 = c0 := rfl
    rw [e1]
    simp [hMode, hHolds, key]
  · have hne : ¬ key c0 = key ((c0 :: kc).getD j 0) := by
      intro h
      have h2 : (c0 :: kc).getD 0 0 = (c0 :: kc).getD j 0 := key_inj h
      exact e (getD_inj hnd (by omega) (by omega) h2).symm
    have hmem : key ((c0 :: kc).getD j 0) ∈ kc.map key := by
      obtain ⟨i, rfl⟩ : ∃ i, j = i + 1 := ⟨j - 1, by omega⟩
      refine List.mem_map.2 ⟨(c0 :: kc).getD (i + 1) 0, ?_, rfl⟩
      have : (c0 :: kc).getD (i + 1) 0 = kc.getD i 0 := by simp [List.getD]
      rw [this]
      exact getD_mem (by simp at hl; omega)
    simp only [hMode, hHolds, hne, if_false, hv1 j (by omega) hj, hmem, decide_true]

theorem built_start {w0 w1 w2 w : World} {I M : Nat → Int} {W : Nat → Bool} {s n hb hc mb mc : Nat} {cl : List Nat} (h : Built w0 w1 w2 w I M W s n hb hc mb mc cl) (hn : 0 < n) :
    ∃ c0 kc oth m cnt v, cl = c0 :: kc ∧ HSet w s (key c0) (M 0 % 5 + 1) oth m cnt none (kc.map key) v ∧ (∀ j, 1 ≤ j → j < n → (v (key (cl.getD j 0))).1 = M j % 5 + 1) ∧
      (∀ o, oth = some o → (w1.heap.size ≤ o ∧ o < w2.heap.size ∧ o ≠ hb ∧ o ≠ mb ∧ o ∉ cl) ∧ (w1.heap.size ≤ m ∧ m < w2.heap.size ∧ m ≠ hb ∧ m ≠ mb ∧ m ∉ cl)) ∧ s < w2.heap.size := by
  have hB := h.hB
  obtain ⟨oth, m, cnt, v, hset, hv1, hv2, hv3⟩ := hB.set
  obtain ⟨c0, kc, rfl⟩ : ∃ c0 kc, cl = c0 :: kc := by
    cases cl with
    | nil => have := hB.len; simp at this; omega
    | cons a b => exact ⟨a, b, rfl⟩
  have hl := hB.len
  rw [if_neg (by omega)] at hset
  have hset2 := hset_keep hset h.t2 (fun h => h) (fun _ _ h => h) (fun _ _ => ⟨fun h => h, fun h => h⟩)
  have hcore : ∀ c, c ∈ c0 :: kc → OkKey w2 (key c) := by
    intro c hc
    obtain ⟨j, hj, rfl⟩ := mem_getD hc
    exact (hB.core j (by omega)).1
  refine ⟨c0, kc, oth, m, cnt, v, rfl, hset2, hv1, fun o ho => ?_, hset.row.lt⟩
  obtain ⟨hO, hM, _⟩ := hset.some o ho
  exact ⟨⟨(hv3 o ho).1, hO.lt, fun e => own_ne_row hB.hs hO (by decide) (by rw [e]; rfl), fun e => own_ne_row hB.ms hO (by decide) (by rw [e]; rfl), fun hc => core_ne_row (hcore o hc) hO (by decide) rfl⟩,
    (hv3 o ho).2, hM.lt, fun e => own_ne_map hB.hs hM (by rw [e]; rfl), fun e => own_ne_map hB.ms hM (by rw [e]; rfl), fun hc => core_ne_map (hcore m hc) hM rfl⟩

theorem exact_some (sa : Option Addr) (n sc : Nat) (I M : Nat → Int) (W : Nat → Bool) (hI : ∀ j, 0 ≤ I j ∧ I j ≤ 255) (hM : ∀ j, 0 ≤ M j ∧ M j ≤ 255) (set q : Int) (hs : 0 ≤ set ∧ set ≤ 255) (hq : 0 ≤ q ∧ q ≤ 255) (older : Bool) (hn0 : 0 < n) (hn : n ≤ 300) (w : World) (h : SpecAt w sa n I M W) :
    Calls Yba.prog 5 #[.slice sa n sc, .int .u8 set, .int .u8 q, .bool older] w fun e w' => e = .returned (.bool true) ∧ Turned w w' (fun _ => False) := by
  have T1 : Turned w ((w.alloc (.cells #[.slice sa n sc] 36)).alloc (.cells #[.bool older] 4)) (fun _ => False) := ((Turned.refl _ _).alloc _).alloc _
  have h1 := specAt_turned h T1 (fun _ _ _ h => h)
  have hbd := build_any sa n sc I M W hI hM hn _ h1
  have q1 := Int.emod_nonneg q (show (18 : Int) ≠ 0 by omega)
  have q2 := Int.emod_lt_of_pos q (show (0 : Int) < 18 by omega)
  go_enter Yba.func5, Yba.ntmps5
  go_wp2_with (go_at_call 12; refine hbd.mono ?_; rintro e w2 ⟨s, cl, hv, mv, rfl, hB⟩; obtain ⟨hb, hc, rfl, hb1, hb2, hb3, hb4⟩ := own_form hB.hs hn0; obtain ⟨mb, mc, rfl, mb1, mb2, mb3, mb4⟩ := own_form hB.ms hn0)
  obtain ⟨w3, hw3⟩ : ∃ w3, ((((w2.alloc (.cells #[.slice (some ⟨hb, 0, none⟩) n hc] 37)).alloc (.cells #[.slice (some ⟨mb, 0, none⟩) n mc] 38)).alloc (.cells #[.int .u8 set] 41)).alloc (.cells #[.int .u64 (q % 18)] 42)) = w3 := ⟨_, rfl⟩
  rw [hw3]
  obtain ⟨e1, e2, e3, e4⟩ := four_fresh w2 (.slice (some ⟨hb, 0, none⟩) n hc) (.slice (some ⟨mb, 0, none⟩) n mc) (.int .u8 set) (.int .u64 (q % 18)) 37 38 41 42
  rw [hw3] at e1 e2 e3 e4
  have T23 : Turned w2 w3 (fun _ => False) := by
    rw [← hw3]
    exact ((((Turned.refl _ _).alloc _).alloc _).alloc _).alloc _
  have sz3 : w2.heap.size + 4 ≤ w3.heap.size := by rw [← hw3]; simp
  have hBt : Built w ((w.alloc (.cells #[.slice sa n sc] 36)).alloc (.cells #[.bool older] 4)) w2 w3 I M W s n hb hc mb mc cl := ⟨hB, T1, T23⟩
  have f1 : ((w.alloc (.cells #[.slice sa n sc] 36)).alloc (.cells #[.bool older] 4)).cell? ⟨w.heap.size, 0, none⟩ = some (.slice sa n sc) := ((Turned.refl _ (fun _ => False)).alloc _).cell (cell_fresh w _ _) (fun h => h)
  have f2 : ((w.alloc (.cells #[.slice sa n sc] 36)).alloc (.cells #[.bool older] 4)).cell? ⟨w.heap.size + 1, 0, none⟩ = some (.bool older) := by
    have := cell_fresh (w.alloc (.cells #[.slice sa n sc] 36)) (.bool older) 4
    simpa only [World.size_alloc] using this
  have g1 := T23.cell (hB.turn.cell f1 (fun h => h)) (fun h => h)
  have g2 := T23.cell (hB.turn.cell f2 (fun h => h)) (fun h => h)
  have e3' : w3.cell? ⟨w2.heap.size + 1 + 1, 0, none⟩ = some (.int .u8 set) := e3
  have e4' : w3.cell? ⟨w2.heap.size + 1 + 1 + 1, 0, none⟩ = some (.int .u64 (q % 18)) := e4
  have hE3 := hBt.env hn0 e1 g1 e2 e3' e4' g2 h
  have z2 := hB.turn.size
  have z1 : ((w.alloc (.cells #[.slice sa n sc] 36)).alloc (.cells #[.bool older] 4)).heap.size = w.heap.size + 1 + 1 := by simp
  obtain ⟨c0, kc, oth, m, cnt, v, hcl, hset, hv1, hom, hsl⟩ := built_start hBt hn0
  subst hcl
  have hP0 : PassInv w ((w.alloc (.cells #[.slice sa n sc] 36)).alloc (.cells #[.bool older] 4)) w2 w2.heap.size w.heap.size (w2.heap.size + 1) (w2.heap.size + 1 + 1) (w2.heap.size + 1 + 1 + 1) (w.heap.size + 1) sa n sc hb hc mb mc I M W s c0 kc oth m cnt set (q % 18) older w3 := ⟨hE3, ⟨none, v, hset, hv1, .inl rfl⟩, hBt.all, by omega⟩
  have hl := hB.len
  have hnd := hB.nd
  have hcl2 : ∀ c, c ∈ c0 :: kc → ((w.alloc (.cells #[.slice sa n sc] 36)).alloc (.cells #[.bool older] 4)).heap.size ≤ c ∧ c < w2.heap.size := by
    intro c hc
    refine ⟨hB.new c hc, ?_⟩
    obtain ⟨j, hj, rfl⟩ := mem_getD hc
    exact (hB.core j (by omega)).1.lt
  have hsp : ∀ b off, sa = some ⟨b, off, none⟩ → b < w.heap.size := by
    intro b off hb
    rcases h.all with h0 | ⟨b', off', rfl, hbb, _⟩
    · omega
    · cases hb
      exact hbb
  have d1 : ∀ b, b ∈ [w2.heap.size, w2.heap.size + 1, w2.heap.size + 1 + 1, w2.heap.size + 1 + 1 + 1] → w2.heap.size ≤ b := by
    intro b hb
    simp at hb
    omega
  have d2 : ∀ b, b ∈ [w.heap.size, w.heap.size + 1] → b < ((w.alloc (.cells #[.slice sa n sc] 36)).alloc (.cells #[.bool older] 4)).heap.size := by
    intro b hb
    rw [z1]
    simp at hb
    omega
  obtain ⟨w1, hw1⟩ : ∃ w1, w1 = ((w.alloc (.cells #[.slice sa n sc] 36)).alloc (.cells #[.bool older] 4)) := ⟨_, rfl⟩
  rw [← hw1] at hP0 hcl2 d2 hom hb1 mb1 z2 z1
  have h01 : w.heap.size ≤ w1.heap.size := by omega
  have m44 := make44 n (by omega)
  clear hbd hw3 hb3 hb4 mb3 mb4 f1 f2 h1 hB hBt T1 hset hv1 e3 e4 hw1 z1
  obtain ⟨p, hp⟩ : ∃ p, p = qual I M W set (q % 18) older := ⟨_, rfl⟩
  have HP : Hid (p = qual I M W set (q % 18) older) := hp
  clear hp
  go_loopw [14, 15] (fun t14 t15 wr => ∃ j : Nat, t14 = .int .i64 ((cq p j : Nat) : Int) ∧ t15 = .int .i64 (j : Int) ∧ j ≤ n ∧ wr = w3) (fun _ t15 _ => n - (intOf t15).toNat)
  case atStart => exact ⟨0, by rw [cq_zero]; rfl, rfl, by omega, rfl⟩
  case round =>
    obtain ⟨j, rfl, rfl, hj, rfl⟩ := hrel
    have hcj := cq_le p j
    by_cases hlt : j < n
    · have hql := qual_any sa n sc mb mc I M W hI hM (by omega) set (q % 18) hs (by omega) older j hlt wr hE3.spec (hE3.modes j hlt)
      rw [← HP.out] at hql
      cases hpj : p j with
      | true =>
        rw [hpj] at hql
        have HS : Hid (((cq p (j + 1) : Nat) : Int) = (cq p j : Int) + 1) := by
          show ((cq p (j + 1) : Nat) : Int) = _
          rw [cq_succ, hpj]
          simp
        clear hpj m44
        go_wp2_with (go_at_call 13; refine hql.mono ?_; rintro e w' ⟨rfl, rfl⟩)
        go_roundw
        case rel =>
          refine ⟨j + 1, ?_, ?_, by omega, trivial⟩
          · rw [HS.out]
          · go_num
        case measure => simp [intOf]; omega
      | false =>
        rw [hpj] at hql
        have HS : Hid (((cq p (j + 1) : Nat) : Int) = (cq p j : Int)) := by
          show ((cq p (j + 1) : Nat) : Int) = _
          rw [cq_succ, hpj]
          simp
        clear hpj m44
        go_wp2_with (go_at_call 13; refine hql.mono ?_; rintro e w' ⟨rfl, rfl⟩)
        go_roundw
        case rel =>
          refine ⟨j + 1, ?_, ?_, by omega, trivial⟩
          · rw [HS.out]
          · go_num
        case measure => simp [intOf]; omega
    · obtain rfl : j = n := by omega
      obtain ⟨w3, hw3⟩ : ∃ w3 : World, w3 = wr := ⟨_, rfl⟩
      subst hw3
      obtain ⟨cn, hcn⟩ : ∃ cn, cn = cq p j := ⟨_, rfl⟩
      have HC : Hid (cn = cq (qual I M W set (q % 18) older) j) := by
        show cn = _
        rw [hcn, HP.out]
      rw [← hcn] at hcj ⊢
      clear hcn HP hE3 g1 g2 e2 e3' e4'
      go_wp2_with fail
      clear e1
      go_loopw [16] (fun t16 wr => ∃ pp : Nat, t16 = .int .i64 (pp : Int) ∧ pp ≤ 2 ∧ PassInv w w1 w2 w2.heap.size w.heap.size (w2.heap.size + 1) (w2.heap.size + 1 + 1) (w2.heap.size + 1 + 1 + 1) (w.heap.size + 1) sa j sc hb hc mb mc I M W s c0 kc oth m cnt set (q % 18) older wr) (fun t16 _ => 2 - (intOf t16).toNat)
      case atStart => exact ⟨0, rfl, by omega, hP0⟩
      case round =>
        obtain ⟨pp, rfl, hpp, hP⟩ := hrel
        clear hP0
        by_cases hlt2 : pp < 2
        · have y1 := hP.env.h
          have hT4 : Turned wr ((((wr.alloc (.cells (zeros (.bool false) j) 4)).alloc (.cells #[.slice (some ⟨wr.heap.size, 0, none⟩) j j] 44)).alloc (.cells #[.int .i64 0] 3)).alloc (.cells #[.bool true] 4)) (fun _ => False) := ((((Turned.refl _ _).alloc _).alloc _).alloc _).alloc _
          have y4 := hT4.cell hP.env.st (fun h => h)
          have y5 := hT4.cell hP.env.id (fun h => h)
          have y6 := hT4.cell hP.env.od (fun h => h)
          have o1 := cell_fresh (((wr.alloc (.cells (zeros (.bool false) j) 4)).alloc (.cells #[.slice (some ⟨wr.heap.size, 0, none⟩) j j] 44)).alloc (.cells #[.int .i64 0] 3)) (.bool true) 4
          simp only [World.size_alloc] at o1
          have o2 := ((Turned.refl ((wr.alloc (.cells (zeros (.bool false) j) 4)).alloc (.cells #[.slice (some ⟨wr.heap.size, 0, none⟩) j j] 44)) (fun _ => False)).alloc (.cells #[.int .i64 0] 3)).alloc (.cells #[.bool true] 4) |>.cell (cell_fresh (wr.alloc (.cells (zeros (.bool false) j) 4)) (.slice (some ⟨wr.heap.size, 0, none⟩) j j) 44) (fun h => h)
          simp only [World.size_alloc] at o2
          have o3 := ((((row_made wr (.bool false) j 4).alloc (.cells #[.slice (some ⟨wr.heap.size, 0, none⟩) j j] 44)).alloc (.cells #[.int .i64 0] 3)).alloc (.cells #[.bool true] 4))
          have o4 := (row_lit ((wr.alloc (.cells (zeros (.bool false) j) 4)).alloc (.cells #[.slice (some ⟨wr.heap.size, 0, none⟩) j j] 44)) #[.int .i64 0] 3 1 rfl (fun _ => .int .i64 0) (fun i hi => by
            have e0 : i = 0 := by omega
            subst e0
            rfl)).alloc (.cells #[.bool true] 4)
          simp only [World.size_alloc] at o4
          have hlk := exact_look hP hI hM hn hs (by omega) hl hnd hcl2 hsl h01 hom hT4 (by simp) rfl rfl rfl rfl o1 o2 o3 o4 d1 d2 ⟨hb1, hb2⟩ ⟨mb1, mb2⟩ hsp
          rw [← HC.out] at hlk
          have HT4 : Hid (Turned wr _ (fun _ => False)) := hT4
          clear hT4 o1 o2 o3 o4 hP hom hcl2 d1 d2 hI hM
          go_wp2_with first
            | (go_at_call 14; refine hlk.mono ?_; rintro e w5 ⟨S1, S2, S3, S4, rfl, hseq⟩)
            | (go_at_call 22; refine hseq.mono ?_; rintro e w6 ⟨rfl, r1, r2, hP6⟩)
          go_roundw
          case rel => exact ⟨pp + 1, by go_num, by omega, hP6⟩
          case measure => simp [intOf]; omega
        · have hpp2 : (2 : Int) ≤ (pp : Int) := by omega
          obtain ⟨w6, hw6⟩ : ∃ w6 : World, w6 = wr := ⟨_, rfl⟩
          subst hw6
          go_wp2_with fail
          go_loopw [20] (fun t20 wr => ∃ i : Nat, t20 = .int .i64 (i : Int) ∧ i ≤ j ∧ Turned w6 wr (fun _ => False)) (fun t20 _ => j - (intOf t20).toNat)
          case atStart => exact ⟨0, rfl, by omega, Turned.refl _ _⟩
          case round =>
            obtain ⟨i, rfl, hi, hT⟩ := hrel
            have y1 := hT.cell hP.env.h (fun h => h)
            by_cases hlt3 : i < j
            · have y2 := hT.cell (hP.env.cores i hlt3) (fun h => h)
              have hmo := mode_is hP hl hnd hT hlt3
              have hmo2 : Calls Yba.prog 9 #[.pointer (some ⟨s, 0, none⟩), .pointer (some ⟨(c0 :: kc).getD i 0, 0, none⟩)] wr fun e w7 => e = .returned (.tuple #[.int .u8 (M i % 5 + 1), .bool true]) ∧ w7.cell? ⟨w2.heap.size + 1, 0, none⟩ = some (.slice (some ⟨mb, 0, none⟩) j mc) ∧ w7.cell? ⟨mb, i, none⟩ = some (.int .u8 (M i % 5 + 1)) ∧ Hid (Turned w6 w7 (fun _ => False)) := by
                refine hmo.mono ?_
                rintro e w7 ⟨rfl, T7⟩
                have T67 : Turned w6 w7 (fun _ => False) := hT.trans (T7.mono (fun _ _ h => h.elim))
                exact ⟨rfl, T67.cell hP.env.ms (fun h => h), T67.cell (hP.env.modes i hlt3) (fun h => h), T67⟩
              obtain ⟨cj, hcj⟩ : ∃ cj, cj = (c0 :: kc).getD i 0 := ⟨_, rfl⟩
              simp only [← hcj] at y2 hmo2
              clear hmo hcj
              go_wp2_with (go_at_call 9; refine hmo2.mono ?_; rintro e w7 ⟨rfl, r1, r2, HT7⟩)
              go_roundw
              case rel => exact ⟨i + 1, by go_num, by omega, HT7.out⟩
              case measure => simp [intOf]; omega
            · obtain rfl : i = j := by omega
              have fin : Turned w wr (fun _ => False) := hP.turn.trans (hT.mono (fun _ _ h => h.elim))
              go_wp2_with fail
              go_ret
              exact ⟨rfl, fin⟩

theorem own_zeroX {w : World} {base : Nat} {e : TypeId} {v : Value} {xs : List Value} (h : w.ownsRow base e 1 v 0 xs) : ∃ a cap, v = .slice a 0 cap := by
  rcases h.2 with ⟨rfl, _⟩ | ⟨g, cap, cur, rfl, _⟩
  · exact ⟨none, 0, rfl⟩
  · exact ⟨_, cap, rfl⟩

theorem exact_none (sa : Option Addr) (sc : Nat) (set q : Int) (hs : 0 ≤ set ∧ set ≤ 255) (hq : 0 ≤ q ∧ q ≤ 255) (older : Bool) (w : World) :
    Calls Yba.prog 5 #[.slice sa 0 sc, .int .u8 set, .int .u8 q, .bool older] w fun e w' => e = .returned (.bool true) ∧ Turned w w' (fun _ => False) := by
  have T1 : Turned w ((w.alloc (.cells #[.slice sa 0 sc] 36)).alloc (.cells #[.bool older] 4)) (fun _ => False) := ((Turned.refl _ _).alloc _).alloc _
  have hbd := build_any sa 0 sc (fun _ => 0) (fun _ => 0) (fun _ => false) (by simp) (by simp) (by omega) ((w.alloc (.cells #[.slice sa 0 sc] 36)).alloc (.cells #[.bool older] 4)) ⟨.inl rfl⟩
  have q1 := Int.emod_nonneg q (show (18 : Int) ≠ 0 by omega)
  have q2 := Int.emod_lt_of_pos q (show (0 : Int) < 18 by omega)
  have m44 := make44 0 (by omega)
  simp only [Int.natCast_zero] at m44
  go_enter Yba.func5, Yba.ntmps5
  go_wp2_with (go_at_call 12; refine hbd.mono ?_; rintro e w2 ⟨s, cl, hv, mv, rfl, hB⟩; obtain ⟨ha, hc, rfl⟩ := own_zeroX hB.hs; obtain ⟨ma, mc, rfl⟩ := own_zeroX hB.ms)
  obtain ⟨w3, hw3⟩ : ∃ w3, ((((w2.alloc (.cells #[.slice ha 0 hc] 37)).alloc (.cells #[.slice ma 0 mc] 38)).alloc (.cells #[.int .u8 set] 41)).alloc (.cells #[.int .u64 (q % 18)] 42)) = w3 := ⟨_, rfl⟩
  rw [hw3]
  obtain ⟨e1, e2, e3, e4⟩ := four_fresh w2 (.slice ha 0 hc) (.slice ma 0 mc) (.int .u8 set) (.int .u64 (q % 18)) 37 38 41 42
  rw [hw3] at e1 e2 e3 e4
  have T23 : Turned w2 w3 (fun _ => False) := by
    rw [← hw3]
    exact ((((Turned.refl _ _).alloc _).alloc _).alloc _).alloc _
  have f2 : ((w.alloc (.cells #[.slice sa 0 sc] 36)).alloc (.cells #[.bool older] 4)).cell? ⟨w.heap.size + 1, 0, none⟩ = some (.bool older) := by
    have := cell_fresh (w.alloc (.cells #[.slice sa 0 sc] 36)) (.bool older) 4
    simpa only [World.size_alloc] using this
  have g2 := T23.cell (hB.turn.cell f2 (fun h => h)) (fun h => h)
  have e3' : w3.cell? ⟨w2.heap.size + 1 + 1, 0, none⟩ = some (.int .u8 set) := e3
  have e4' : w3.cell? ⟨w2.heap.size + 1 + 1 + 1, 0, none⟩ = some (.int .u64 (q % 18)) := e4
  obtain ⟨oth, m, cnt, v, hset, _⟩ := hB.set
  have hcl : cl = [] := List.length_eq_zero_iff.1 hB.len
  subst hcl
  have r0 := T23.cell (hset.row.cell (j := 0) (by omega)) (fun h => h)
  simp [hsRow] at r0
  have T3 : Turned w w3 (fun _ => False) := (T1.trans (hB.turn.mono (fun _ _ h => h.elim))).trans (T23.mono (fun _ _ h => h.elim))
  clear hbd hw3 f2 hset hB T1 T23 e3 e4
  go_loopw [14, 15] (fun t14 t15 wr => t14 = .int .i64 0 ∧ t15 = .int .i64 0 ∧ wr = w3) (fun _ _ _ => 0)
  case atStart => exact ⟨rfl, rfl, rfl⟩
  case round =>
    obtain ⟨rfl, rfl, rfl⟩ := hrel
    obtain ⟨w3, hw3⟩ : ∃ w3 : World, w3 = wr := ⟨_, rfl⟩
    subst hw3
    go_wp2_with fail
    go_loopw [16] (fun t16 wr => ∃ pp : Nat, t16 = .int .i64 (pp : Int) ∧ pp ≤ 2 ∧ Turned w3 wr (fun _ => False)) (fun t16 _ => 2 - (intOf t16).toNat)
    case atStart => exact ⟨0, rfl, by omega, Turned.refl _ _⟩
    case round =>
      obtain ⟨pp, rfl, hpp, hT⟩ := hrel
      have y1 := hT.cell e1 (fun h => h)
      by_cases hlt2 : pp < 2
      · have hT4 : Turned wr ((((wr.alloc (.cells (zeros (.bool false) 0) 4)).alloc (.cells #[.slice (some ⟨wr.heap.size, 0, none⟩) 0 0] 44)).alloc (.cells #[.int .i64 0] 3)).alloc (.cells #[.bool true] 4)) (fun _ => False) := ((((Turned.refl _ _).alloc _).alloc _).alloc _).alloc _
        have T34 := hT.trans (hT4.mono (fun _ _ h => h.elim))
        have y4 := T34.cell e3' (fun h => h)
        have y5 := T34.cell e4' (fun h => h)
        have y6 := T34.cell g2 (fun h => h)
        have y7 := T34.cell r0 (fun h => h)
        have o1 := cell_fresh (((wr.alloc (.cells (zeros (.bool false) 0) 4)).alloc (.cells #[.slice (some ⟨wr.heap.size, 0, none⟩) 0 0] 44)).alloc (.cells #[.int .i64 0] 3)) (.bool true) 4
        simp only [World.size_alloc] at o1
        have o2 := ((Turned.refl (((wr.alloc (.cells (zeros (.bool false) 0) 4)).alloc (.cells #[.slice (some ⟨wr.heap.size, 0, none⟩) 0 0] 44)).alloc (.cells #[.int .i64 0] 3)) (fun _ => False)).alloc (.cells #[.bool true] 4)).cell (cell_fresh ((wr.alloc (.cells (zeros (.bool false) 0) 4)).alloc (.cells #[.slice (some ⟨wr.heap.size, 0, none⟩) 0 0] 44)) (.int .i64 0) 3) (fun h => h)
        simp only [World.size_alloc] at o2
        have hlk : Calls Yba.prog 14 #[.pointer (some ⟨s, 0, none⟩), .int .u8 set, .int .u64 (q % 18), .bool older] ((((wr.alloc (.cells (zeros (.bool false) 0) 4)).alloc (.cells #[.slice (some ⟨wr.heap.size, 0, none⟩) 0 0] 44)).alloc (.cells #[.int .i64 0] 3)).alloc (.cells #[.bool true] 4)) fun e w5 => ∃ S1 S2 S3 S4, e = .returned (.func (.func 22) #[] #[.pointer (some ⟨S1, 0, none⟩), .pointer (some ⟨S2, 0, none⟩), .pointer (some ⟨S3, 0, none⟩), .pointer (some ⟨S4, 0, none⟩)]) ∧
            ∀ caps, Calls Yba.prog 22 #[.func (.func 15) #[] caps, .pointer (some ⟨S1, 0, none⟩), .pointer (some ⟨S2, 0, none⟩), .pointer (some ⟨S3, 0, none⟩), .pointer (some ⟨S4, 0, none⟩)] w5 fun e w6 => e = .returned (.tuple #[]) ∧ w6.cell? ⟨wr.heap.size + 1 + 1 + 1, 0, none⟩ = some (.bool true) ∧ w6.cell? ⟨wr.heap.size + 1 + 1, 0, none⟩ = some (.int .i64 0) ∧ Hid (Turned w3 w6 (fun _ => False)) := by
          refine (ofAge14 s set (q % 18) older _).mono ?_
          rintro e w5 ⟨rfl, hw5⟩
          refine ⟨_, _, _, _, rfl, fun caps => ?_⟩
          obtain ⟨z1, z2, z3, z4⟩ := four_fresh ((((wr.alloc (.cells (zeros (.bool false) 0) 4)).alloc (.cells #[.slice (some ⟨wr.heap.size, 0, none⟩) 0 0] 44)).alloc (.cells #[.int .i64 0] 3)).alloc (.cells #[.bool true] 4)) (.pointer (some ⟨s, 0, none⟩)) (.int .u8 set) (.int .u64 (q % 18)) (.bool older) 27 41 42 4
          rw [hw5] at z1
          have T5 : Turned ((((wr.alloc (.cells (zeros (.bool false) 0) 4)).alloc (.cells #[.slice (some ⟨wr.heap.size, 0, none⟩) 0 0] 44)).alloc (.cells #[.int .i64 0] 3)).alloc (.cells #[.bool true] 4)) w5 (fun _ => False) := by
            rw [← hw5]
            exact ((((Turned.refl _ _).alloc _).alloc _).alloc _).alloc _
          refine (seq_empty 15 caps _ _ _ _ s w5 z1 (T5.cell y7 (fun h => h))).mono ?_
          rintro e w6 ⟨rfl, T6⟩
          have T56 := T5.trans (T6.mono (fun _ _ h => h.elim))
          exact ⟨rfl, T56.cell o1 (fun h => h), T56.cell o2 (fun h => h), T34.trans (T56.mono (fun _ _ h => h.elim))⟩
        clear o1 o2 y7 hT4 T34 r0 e2 e3' e4' g2
        go_wp2_with first
          | (go_at_call 14; refine hlk.mono ?_; rintro e w5 ⟨S1, S2, S3, S4, rfl, hseq⟩)
          | (go_at_call 22; refine (hseq _).mono ?_; rintro e w6 ⟨rfl, r1, r2, HT6⟩)
        go_roundw
        case rel => exact ⟨pp + 1, by go_num, by omega, HT6.out⟩
        case measure => simp [intOf]; omega
      · obtain rfl : pp = 2 := by omega
        obtain ⟨w6, hw6⟩ : ∃ w6 : World, w6 = wr := ⟨_, rfl⟩
        subst hw6
        have fin : Turned w w6 (fun _ => False) := T3.trans (hT.mono (fun _ _ h => h.elim))
        go_wp2_with fail
        go_loopw [20] (fun t20 wr => t20 = .int .i64 0 ∧ wr = w6) (fun _ _ => 0)
        case atStart => exact ⟨rfl, rfl⟩
        case round =>
          obtain ⟨rfl, rfl⟩ := hrel
          go_wp2_with fail
          go_ret
          exact ⟨rfl, fin⟩

theorem exact_any (sa : Option Addr) (n sc : Nat) (I M : Nat → Int) (W : Nat → Bool) (hI : ∀ j, 0 ≤ I j ∧ I j ≤ 255) (hM : ∀ j, 0 ≤ M j ∧ M j ≤ 255) (set q : Int) (hs : 0 ≤ set ∧ set ≤ 255) (hq : 0 ≤ q ∧ q ≤ 255) (older : Bool) (w : World) (h : SpecAt w sa n I M W) :
    Calls Yba.prog 5 #[.slice sa n sc, .int .u8 set, .int .u8 q, .bool older] w fun e w' => e = .returned (.bool true) ∧ Turned w w' (fun _ => False) := by
  by_cases h3 : n ≤ 300
  · by_cases h0 : n = 0
    · subst h0
      exact exact_none sa sc set q hs hq older w
    · exact exact_some sa n sc I M W hI hM set q hs hq older (by omega) h3 w h
  · exact exact_long sa n sc set q older (by omega) w
end Go.Proofs.Ybulkcrkq
