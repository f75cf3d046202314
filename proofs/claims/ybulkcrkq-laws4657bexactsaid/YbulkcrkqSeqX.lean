/- The look over a holder set, yielding to function 15. -/
import Derived.Test.YbulkcrkqSeqPre
namespace Go.Proofs.Ybulkcrkq
open Go.ChangeShapes Go.WideShapes Go.ChangeAt Go.RowKit
set_option maxHeartbeats 20000000
set_option maxRecDepth 20000
set_option linter.unusedVariables false

theorem seqX_any {F : Nat} {caps : Array Value} {Y M : Nat → Prop} {go : List Nat → Bool} {J : List Nat → World → Prop} {S1 S2 S3 S4 s c0 fm : Nat} {oth : Option Nat} {m : Nat} {cnt : Nat → Int} {age : Option Addr} {kc : List Nat} {v : Option Addr → Int × Int} {md : Nat → Nat} {wdf idf : Nat → Int} {set q : Int} {older : Bool} (hF : F = 15)
    (hY : YieldOk F caps Y M go (fun c => c ∈ c0 :: kc ∧ Wants md wdf idf set q older c) J) (w : World) (h : SeqPre w Y M S1 S2 S3 S4 s c0 fm oth m cnt age kc v md wdf idf set q older) (hJ : J [] w) :
    Calls Yba.prog 22 #[.func (.func F) #[] caps, .pointer (some ⟨S1, 0, none⟩), .pointer (some ⟨S2, 0, none⟩), .pointer (some ⟨S3, 0, none⟩), .pointer (some ⟨S4, 0, none⟩)] w fun e w' => e = .returned (.tuple #[]) ∧ SeqPost Y M [S1, S2, S3, S4] go J s c0 fm oth m cnt kc v md wdf idf set q older w' := by
  subst hF
  have a1 := h.c1
  have a2 := h.c2
  have a3 := h.c3
  have a4 := h.c4
  have r0 := h.hset.row.cell (j := 0) (by omega)
  have r1 := h.hset.row.cell (j := 1) (by omega)
  have r2 := h.hset.row.cell (j := 2) (by omega)
  simp [hsRow, key] at r0 r1 r2
  obtain ⟨w0, i0⟩ := h.core c0 (by simp)
  have b1 := World.block_lt_of_cell? w _ a1
  have b2 := World.block_lt_of_cell? w _ a2
  have b3 := World.block_lt_of_cell? w _ a3
  have b4 := World.block_lt_of_cell? w _ a4
  have b5 := World.block_lt_of_cell? w _ w0
  have b6 := h.hset.row.lt
  simp only at b1 b2 b3 b4 b5
  have hq := h.qr
  have hi := h.ids c0
  have hl : ∀ n, Calls Yba.prog 23 #[.pointer (some ⟨c0, 35, none⟩)] ((w.alloc (.cells #[.func (.func 15) #[] caps] 49)).drewN n) fun e w' => e = .returned (.bool (wdf c0 != 0)) ∧ w' = (w.alloc (.cells #[.func (.func 15) #[] caps] 49)).drewN n := by
    intro n
    refine (load_any c0 35 (wdf c0) _ ?_).mono (fun e w' h => ⟨h.1, h.2.symm⟩)
    show (w.alloc (.cells #[.func (.func 15) #[] caps] 49)).cell? _ = _
    exact ((Turned.refl w (fun _ => False)).alloc _).cell w0 (fun h => h)
  obtain ⟨f1, hf1⟩ : ∃ f1, f1 = (decide (wdf c0 = 0) && fits older q (idf c0)) := ⟨_, rfl⟩
  have HF1 : Hid (f1 = (decide (wdf c0 = 0) && fits older q (idf c0))) := hf1
  clear hf1
  go_enter Yba.func22, Yba.ntmps22
  go_upto_region 3 with fail
  go_cut [7] (fun s7 wc => s7 = .bool f1 ∧ Turned w wc (fun _ => False) ∧ wc.cell? ⟨w.heap.size, 0, none⟩ = some (.func (.func 15) #[] caps))
  case first =>
    have TA : Turned w (w.alloc (.cells #[.func (.func 15) #[] caps] 49)) (fun _ => False) := (Turned.refl _ _).alloc _
    have TQ : ∀ n, Turned w ((w.alloc (.cells #[.func (.func 15) #[] caps] 49)).drewN n) (fun _ => False) := fun n => ⟨TA.os, TA.tape, TA.output, TA.size, TA.block⟩
    by_cases hw : wdf c0 = 0
    · have hwb : (wdf c0 != 0) = false := by simp [hw]
      rw [hwb] at hl
      have HW : Hid (wdf c0 = 0) := hw
      clear hw hwb h hY
      cases older
      · go_quiet (first | (go_at_call 23; refine Calls.quiet_of_same (hl _)))
        go_wp2_with fail
        go_meet
        case rel => exact ⟨by rw [HF1.out]; simp [HW.out, fits], TQ _, by simp⟩
      · cases hd : decide (idf c0 < q) with
        | true =>
          have hd' : idf c0 < q := of_decide_eq_true hd
          have HD : Hid (idf c0 < q) := hd'
          go_quiet (first | (go_at_call 23; refine Calls.quiet_of_same (hl _)))
          go_wp2_with fail
          go_meet
          case rel => exact ⟨by rw [HF1.out]; simp [HW.out, fits, HD.out], TQ _, by simp⟩
        | false =>
          have hd' : ¬ idf c0 < q := of_decide_eq_false hd
          have HD : Hid (¬ idf c0 < q) := hd'
          go_quiet (first | (go_at_call 23; refine Calls.quiet_of_same (hl _)))
          go_wp2_with fail
          go_meet
          case rel => exact ⟨by rw [HF1.out]; have := HD.out; simp [HW.out, fits]; omega, TQ _, by simp⟩
    · have hwb : (wdf c0 != 0) = true := by simp [hw]
      rw [hwb] at hl
      have HW : Hid (¬ wdf c0 = 0) := hw
      clear hw hwb h hY
      go_quiet (first | (go_at_call 23; refine Calls.quiet_of_same (hl _)))
      go_wp2_with fail
      go_meet
      case rel => exact ⟨by rw [HF1.out]; simp [HW.out], TQ _, by simp⟩
  case rest =>
    obtain ⟨rfl, TC, hc5⟩ := hcut
    clear a1 a2 a3 a4 r0 r1 r2 w0 i0 b1 b2 b3 b4 b5 b6 hl
    obtain ⟨w3, hw3⟩ : ∃ w3 : World, w3 = wc := ⟨_, rfl⟩
    subst hw3
    have T3 : Turned w w3 Y := TC.mono (fun _ _ h => h.elim)
    have hC2 : ¬ Y w.heap.size := fun hy => by have := h.yold _ hy; omega
    have h3 := h.turned T3
    have hJ3 : J [] w3.drew := hY.keep _ _ _ _ hJ TC.drew (fun _ _ h => h)
    have a1 := h3.c1
    have a4 := h3.c4
    have r1 := h3.hset.row.cell (j := 1) (by omega)
    have r2 := h3.hset.row.cell (j := 2) (by omega)
    simp [hsRow] at r1 r2
    have hfm : 1 ≤ fm ∧ fm ≤ 5 := by have := h.mdr c0 (by simp); have := h.fst; omega
    have hh : ∀ n, Calls Yba.prog 21 #[.int .u8 set, .int .u8 (fm : Nat)] (w3.drewN n) fun e w' => e = .returned (.bool (hasM set (fm : Nat))) ∧ w' = w3.drewN n := fun n => (has_any set h.setr (fm : Nat) (by omega) (w3.drewN n)).mono (fun e w' h => ⟨h.1, h.2.symm⟩)
    have hh1 := has_any set h.setr (fm : Nat) (by omega) w3.drew
    obtain ⟨f2, hf2⟩ : ∃ f2, f2 = (hasM set (fm : Nat) && f1) := ⟨_, rfl⟩
    obtain ⟨D0, hD0⟩ : ∃ D0, D0 = if f2 then [c0] else [] := ⟨_, rfl⟩
    have HF2 : Hid (f2 = (hasM set (fm : Nat) && f1)) := hf2
    go_upto_region 4 with fail
    go_cut [73] (fun s73 wc => s73 = .bool (!(visit go [] D0).2 || oth.isNone) ∧ J (visit go [] D0).1 wc ∧ Turned w wc Y ∧ wc.cell? ⟨w.heap.size, 0, none⟩ = some (.func (.func 15) #[] caps))
    case first =>
      cases hb : f2 with
      | false =>
        have e0 : visit go [] D0 = ([], true) := by rw [hD0, hb]; rfl
        have HE : Hid (visit go [] D0 = ([], true)) := e0
        have HJ : Hid (∀ n, J [] (w3.drewN n)) := fun n => hY.keep _ _ _ _ hJ (TC.drewN n) (fun _ _ h => h)
        rw [hf2] at hb
        clear e0 hD0 hf2 hJ3 hJ h h3 hY HF2 hh1
        cases hM : hasM set (fm : Nat) with
        | false =>
          rw [hM] at hh
          clear hM hb HF1
          cases f1 <;> cases oth
          all_goals
            simp at r2
            go_quiet (first | (go_at_call 21; refine Calls.quiet_of_same (hh _)))
            go_wp2_with fail
            go_meet
            case rel => exact ⟨by rw [HE.out]; rfl, by rw [HE.out]; exact HJ.out _, T3.drewN _, hc5⟩
        | true =>
          rw [hM] at hh hb
          simp at hb
          subst hb
          clear hM
          cases oth
          all_goals
            simp at r2
            go_quiet (first | (go_at_call 21; refine Calls.quiet_of_same (hh _)))
            go_wp2_with fail
            go_meet
            case rel => exact ⟨by rw [HE.out]; rfl, by rw [HE.out]; exact HJ.out _, T3.drewN _, hc5⟩
      | true =>
        have hb2 : hasM set (fm : Nat) = true ∧ f1 = true := by rw [hf2] at hb; simpa using hb
        have e0 : visit go [] D0 = ([] ++ [c0], go ([] ++ [c0])) := by rw [hD0, hb]; exact visit_one go [] c0
        have hwant : Wants md wdf idf set q older c0 := by
          have h1 := HF1.out
          rw [hb2.2] at h1
          simp at h1
          exact ⟨h1.1, by rw [h.fst]; exact hb2.1, h1.2⟩
        have hy := hY.call [] c0 w3.drew hJ3 ⟨by simp, hwant⟩ (by simp)
        obtain ⟨b3, hb3⟩ : ∃ b3, b3 = go ([] ++ [c0]) := ⟨_, rfl⟩
        rw [← hb3] at e0 hy
        have HE : Hid (visit go [] D0 = ([] ++ [c0], b3)) := e0
        have hy2 : Calls Yba.prog 15 (#[.pointer (some ⟨c0, 0, none⟩)] ++ caps) w3.drew fun e w' => e = .returned (.bool b3) ∧ Turned w3 w' Y ∧ Hid (J ([] ++ [c0]) w' ∧ Turned w w' Y ∧ w'.cell? ⟨w.heap.size, 0, none⟩ = some (.func (.func 15) #[] caps)) := by
          refine hy.mono ?_
          rintro e w' ⟨rfl, k1, k2⟩
          refine ⟨rfl, (Turned.refl w3 Y).drew.trans (k2.mono (fun _ _ h => .inl h)), k1, T3.drew.trans (k2.mono (fun _ _ h => .inl h)), k2.cell hc5 hC2⟩
        have hk : Hid (∀ w', Turned w3 w' Y → w'.cell? ⟨S4, 0, none⟩ = some (.int .u8 set) ∧ w'.cell? ⟨S1, 0, none⟩ = some (.pointer (some ⟨s, 0, none⟩)) ∧ w'.cell? ⟨s, 1, none⟩ = some (.int .u8 (fm : Nat)) ∧ w'.cell? ⟨s, 2, none⟩ = some (.pointer (oth.map (fun o => ⟨o, 0, none⟩))) ∧ w'.cell? ⟨w.heap.size, 0, none⟩ = some (.func (.func 15) #[] caps)) := fun w' hT => ⟨hT.cell a4 (h.ySs S4 (by simp)), hT.cell a1 (h.ySs S1 (by simp)), hT.cell r1 h.ys, hT.cell r2 h.ys, hT.cell hc5 hC2⟩
        have tD : Turned w3 w3.drew Y := (Turned.refl _ _).drew
        rw [hb2.1] at hh1
        have hff := hb2.2
        subst hff
        clear e0 hD0 hf2 hJ3 hJ h h3 hY HF2 hh hb3 hy hb2 hwant hb HF1 a1 a4 r1 r2 hc5 TC T3 hC2
        cases oth with
        | none =>
          cases b3
          · obtain ⟨k1, k2, k3, k4, k5⟩ := hk.out _ tD
            simp at k4
            go_region_with (first | (go_at_call 21; refine hh1.mono ?_; rintro e w' ⟨rfl, rfl⟩) | (go_at_call 15; refine hy2.mono ?_; rintro e w' ⟨rfl, tg, HG⟩))
            all_goals
              go_wp2_with fail
              go_meet
              case rel => exact ⟨by rw [HE.out]; rfl, by rw [HE.out]; exact HG.out.1, HG.out.2.1, HG.out.2.2⟩
          · go_region_held3 (fun w' => w'.cell? ⟨S4, 0, none⟩ = some (.int .u8 set) ∧ w'.cell? ⟨S1, 0, none⟩ = some (.pointer (some ⟨s, 0, none⟩)) ∧ w'.cell? ⟨s, 1, none⟩ = some (.int .u8 (fm : Nat)) ∧ w'.cell? ⟨s, 2, none⟩ = some (.pointer (none)) ∧ w'.cell? ⟨w.heap.size, 0, none⟩ = some (.func (.func 15) #[] caps)) (first | exact hk.out _ tg | exact hk.out _ tD) (first | (go_at_call 21; refine hh1.mono ?_; rintro e w' ⟨rfl, rfl⟩) | (go_at_call 15; refine hy2.mono ?_; rintro e w' ⟨rfl, tg, HG⟩))
            all_goals
              go_wp2_with fail
              go_meet
              case rel => exact ⟨by rw [HE.out]; rfl, by rw [HE.out]; exact HG.out.1, HG.out.2.1, HG.out.2.2⟩
        | some o =>
          cases b3
          · obtain ⟨k1, k2, k3, k4, k5⟩ := hk.out _ tD
            simp at k4
            go_region_with (first | (go_at_call 21; refine hh1.mono ?_; rintro e w' ⟨rfl, rfl⟩) | (go_at_call 15; refine hy2.mono ?_; rintro e w' ⟨rfl, tg, HG⟩))
            all_goals
              go_wp2_with fail
              go_meet
              case rel => exact ⟨by rw [HE.out]; rfl, by rw [HE.out]; exact HG.out.1, HG.out.2.1, HG.out.2.2⟩
          · go_region_held3 (fun w' => w'.cell? ⟨S4, 0, none⟩ = some (.int .u8 set) ∧ w'.cell? ⟨S1, 0, none⟩ = some (.pointer (some ⟨s, 0, none⟩)) ∧ w'.cell? ⟨s, 1, none⟩ = some (.int .u8 (fm : Nat)) ∧ w'.cell? ⟨s, 2, none⟩ = some (.pointer (some ⟨o, 0, none⟩)) ∧ w'.cell? ⟨w.heap.size, 0, none⟩ = some (.func (.func 15) #[] caps)) (first | exact hk.out _ tg | exact hk.out _ tD) (first | (go_at_call 21; refine hh1.mono ?_; rintro e w' ⟨rfl, rfl⟩) | (go_at_call 15; refine hy2.mono ?_; rintro e w' ⟨rfl, tg, HG⟩))
            all_goals
              go_wp2_with fail
              go_meet
              case rel => exact ⟨by rw [HE.out]; rfl, by rw [HE.out]; exact HG.out.1, HG.out.2.1, HG.out.2.2⟩
    case rest =>
      obtain ⟨rfl, hJ4, T4, hC4⟩ := hcut
      clear a1 a4 r1 r2 hh hh1 hJ3 h3 T3 TC hc5
      obtain ⟨w4, hw4⟩ : ∃ w4 : World, w4 = wc := ⟨_, rfl⟩
      subst hw4
      have hD0n : D0.Nodup := by rw [hD0]; cases f2 <;> simp
      have hD0m : ∀ c, c ∈ D0 ↔ c = c0 ∧ Wants md wdf idf set q older c := by
        intro c
        have hf : f2 = true ↔ Wants md wdf idf set q older c0 := by
          rw [hf2, HF1.out]
          unfold Wants
          rw [h.fst]
          simp [and_comm, and_assoc]
        rw [hD0]
        cases hb : f2 with
        | true =>
          simp
          exact fun e => e ▸ hf.1 hb
        | false =>
          simp
          intro e hw
          subst e
          rw [hf.2 hw] at hb
          cases hb
      have h4 := h.turned T4
      cases hstop : (!(visit go [] D0).2 || oth.isNone) with
      | true =>
        have fin : SeqPost Y M [S1, S2, S3, S4] go J s c0 fm oth m cnt kc v md wdf idf set q older w4 :=
          ⟨seq_first hD0n hD0m hJ4 h.nd hstop (fun ho => by have := (h.hset.none ho).1; simpa using this), age, v, h4.hset, fun _ => rfl, h4.ageok⟩
        go_wp2_with fail
        exact bodyPost_ret (v := .tuple #[]) (by simp [results, Yba.results22]) rfl ⟨rfl, fin⟩
      | false =>
        have hs2 : (visit go [] D0).2 = true ∧ ∃ o, oth = some o := by
          cases oth with
          | none => simp at hstop
          | some o => exact ⟨by simpa using hstop, o, rfl⟩
        obtain ⟨hv0, o, rfl⟩ := hs2
        have hkn : kc.Nodup := (List.nodup_cons.1 h.nd).2
        have hc0 : c0 ∉ kc := (List.nodup_cons.1 h.nd).1
        have hC2o : ∀ b, b ∈ [S1, S2, S3, S4, w.heap.size] → b < w4.heap.size := by
          have t1 := World.block_lt_of_cell? w4 _ h4.c1
          have t2 := World.block_lt_of_cell? w4 _ h4.c2
          have t3 := World.block_lt_of_cell? w4 _ h4.c3
          have t4 := World.block_lt_of_cell? w4 _ h4.c4
          have t5 := World.block_lt_of_cell? w4 _ hC4
          simp only at t1 t2 t3 t4 t5
          intro b hb
          simp at hb
          rcases hb with rfl | rfl | rfl | rfl | rfl <;> omega
        have hage : AgeOk w4 Y M [S1, S2, S3, S4, w.heap.size] c0 kc md wdf idf age := by
          have hlt : ∀ L, age = some ⟨L, 0, none⟩ → L < w.heap.size := by
            intro L hL
            rcases h.ageok with e | ⟨L', dn, e, _, _, ⟨g, hg, _⟩, _⟩
            · rw [e] at hL; cases hL
            · rw [e] at hL
              cases hL
              exact hg.lt
          rcases h4.ageok with e | ⟨L, dn, e, x1, x2, x3, x4, x5, x6, x7⟩
          · exact .inl e
          · refine .inr ⟨L, dn, e, x1, x2, x3, x4, x5, ?_, x7⟩
            have := hlt L e
            simp at x6 ⊢
            refine ⟨x6.1, x6.2.1, x6.2.2.1, x6.2.2.2, by omega⟩
        have hlst := lists_any Y M [S1, S2, S3, S4, w.heap.size] s c0 o m fm cnt age kc v md wdf idf w4 h4.hset hage (fun c hc => ⟨h4.mds c hc, by have := h4.mdr c (List.mem_cons_of_mem _ hc); omega⟩) (by have := h.len; omega) hkn h4.yold h4.mold hC2o
        have a1 := h4.c1
        have r2 := h4.hset.row.cell (j := 2) (by omega)
        simp [hsRow] at r2
        clear hstop hD0 hf2 HF2 HF1
        go_wp2_with (go_at_call 24; refine hlst.mono ?_; rintro e w5 ⟨L, rfl, dn, v', g1, g2, g3, g4, g5, g6, g7, g8, g9, g10, g11, g12, g13⟩)
        have hls : ∀ k c, c ∈ lsOf md dn k ↔ c ∈ kc ∧ md c = k := by
          intro k c
          unfold lsOf
          rw [List.mem_filter, g2 c]
          simp
        have hT5 : Turned w4 w5 (fun b => b = o ∨ b = m) := g13
        have hyo := h4.yo o rfl
        have hJ5 : J (visit go [] D0).1 w5 := hY.keep _ _ _ _ hJ4 hT5 (fun b hb e => e.elim (fun e => hyo.2.2.1 (e ▸ hb)) (fun e => hyo.2.2.2.1 (e ▸ hb)))
        have hck : ∀ c, c ∈ c0 :: kc → OkKey w4 (key c) := by
          intro c hc
          rcases List.mem_cons.1 hc with rfl | hc
          · exact h4.hset.okf
          · exact h4.hset.keys _ (List.mem_map.2 ⟨c, hc, rfl⟩)
        obtain ⟨hO4, hM4, hos4⟩ := h4.hset.some o rfl
        have hcom : ∀ c, c ∈ c0 :: kc → ¬ (c = o ∨ c = m) := fun c hc e => e.elim (core_ne_row (hck c hc) hO4 (by decide)) (core_ne_map (hck c hc) hM4)
        have hS5 : ∀ b, b ∈ [S1, S2, S3, S4] → ¬ (b = o ∨ b = m) := fun b hb e => e.elim (hyo.2.2.2.2 b hb).1 (hyo.2.2.2.2 b hb).2
        have HG0 : Hid (Going w5 Y go J L c0 kc md wdf idf set q older (lsOf md dn) 1 D0 w5) := by
          refine ⟨hD0n, fun c => ?_, hv0, hJ5, g3, Turned.refl _ _⟩
          rw [hD0m c]
          constructor
          · rintro ⟨h1, h2⟩
            exact ⟨.inl h1, h2⟩
          · rintro ⟨h1, h2⟩
            rcases h1 with h1 | ⟨h1, h3⟩
            · exact ⟨h1, h2⟩
            · have := h.mdr c (List.mem_cons_of_mem _ h1)
              omega
        have hwc : w.heap.size ≠ o ∧ w.heap.size ≠ m := by
          obtain ⟨hO, hM, _⟩ := h.hset.some o rfl
          have := hO.lt
          have := hM.lt
          omega
        have e2 := hT5.cell h4.c2 (hS5 S2 (by simp))
        have e3 := hT5.cell h4.c3 (hS5 S3 (by simp))
        have e4 := hT5.cell h4.c4 (hS5 S4 (by simp))
        have e5 := hT5.cell hC4 (fun e => e.elim hwc.1 hwc.2)
        have ecore : ∀ c, c ∈ c0 :: kc → w5.cell? ⟨c, 35, none⟩ = some (.int .u32 (wdf c)) ∧ w5.cell? ⟨c, 37, none⟩ = some (.int .u64 (idf c)) := fun c hc => ⟨hT5.cell (h4.core c hc).1 (hcom c hc), hT5.cell (h4.core c hc).2 (hcom c hc)⟩
        have hyold5 : ∀ b, Y b → b < w5.heap.size := fun b hb => Nat.lt_of_lt_of_le (h4.yold b hb) hT5.size
        have hLX : L ≠ S2 ∧ L ≠ S3 ∧ L ≠ S4 ∧ L ≠ w.heap.size := by
          simp at g6
          exact ⟨g6.2.1, g6.2.2.1, g6.2.2.2.1, g6.2.2.2.2⟩
        have hfin : ∀ wz, Turned w5 wz (fun b => Y b ∨ b = L) → Lists wz L Y (lsOf md dn) wdf idf → (∃ D, D.Nodup ∧ (∀ c, c ∈ D ↔ c ∈ c0 :: kc ∧ Wants md wdf idf set q older c) ∧ J (visit go [] D).1 wz) → SeqPost Y M [S1, S2, S3, S4] go J s c0 fm (some o) m cnt kc v md wdf idf set q older wz := by
          intro wz hTz hLz hDz
          refine ⟨hDz, some ⟨L, 0, none⟩, v', hset_turned g11 hTz (fun e => e.elim h.ys (fun e => g8 e.symm)) (fun c hc e => e.elim (h.yc c hc) (fun e => g7 (e ▸ hc))) (fun o' ho => ?_), g12, .inr ⟨L, dn, rfl, g1, g2, hLz, g4, g5, ?_, g7⟩⟩
          · cases ho
            exact ⟨fun e => e.elim hyo.1 (fun e => g9 e.symm), fun e => e.elim hyo.2.1 (fun e => g10 e.symm)⟩
          · simp at g6 ⊢
            exact ⟨g6.1, g6.2.1, g6.2.2.1, g6.2.2.2.1⟩
        have hset := h.setr
        clear a1 r2 hlst g3 g13 g11 g12 hJ5 hck hO4 hM4 hos4 hcom hS5 hwc hyo hage hC2o hJ4 hJ hT5 hv0 hD0n hD0m
        go_loopw [9] (fun t9 wr => ∃ k D, t9 = .int .u8 ((k : Nat) : Int) ∧ 1 ≤ k ∧ k ≤ 6 ∧ Going w5 Y go J L c0 kc md wdf idf set q older (lsOf md dn) k D wr) (fun t9 _ => 6 - (intOf t9).toNat)
        case atStart => exact ⟨1, D0, rfl, by omega, by omega, HG0.out⟩
        case round =>
          obtain ⟨k, D, rfl, hk1, hk6, hG⟩ := hrel
          clear HG0
          by_cases hk5 : k ≤ 5
          · have x4 := hG.turn.cell e4 (fun e => e.elim (h.ySs S4 (by simp)) (fun e => hLX.2.2.1 e.symm))
            have hh := has_any set hset (k : Nat) (by omega) wr
            cases hM : hasM set (k : Nat) with
            | false =>
              rw [hM] at hh
              have HGs : Hid (Going w5 Y go J L c0 kc md wdf idf set q older (lsOf md dn) (k + 1) D wr) := hG.skip hM
              clear hM
              go_wp2_with (go_at_call 21; refine hh.mono ?_; rintro e w' ⟨rfl, rfl⟩)
              go_roundw
              case rel => exact ⟨k + 1, D, by go_num, by omega, by omega, HGs.out⟩
              case measure => simp [intOf]; omega
            | true =>
              rw [hM] at hh
              have HM : Hid (hasM set (k : Nat) = true) := hM
              clear hM
              obtain ⟨wb, hwb⟩ : ∃ wb : World, wb = (wr.alloc (.cells #[.pointer (some ⟨L, k * 4, none⟩)] 107)).drew := ⟨_, rfl⟩
              have TB : Turned wr wb (fun _ => False) := by rw [hwb]; exact ((Turned.refl _ _).alloc _).drew
              have TB5 : Turned w5 wb (fun b => Y b ∨ b = L) := hG.turn.trans (TB.mono (fun _ _ h => h.elim))
              have hsz5 : w5.heap.size ≤ wr.heap.size := hG.turn.size
              have hsw : w.heap.size < w5.heap.size := World.block_lt_of_cell? w5 _ e5
              obtain ⟨gL, hgL, _⟩ := id hG.lists
              have hLlt := hgL.lt
              have hC1 : wb.cell? ⟨wr.heap.size, 0, none⟩ = some (.pointer (some ⟨L, k * 4, none⟩)) := by rw [hwb]; simp
              have hlen : (lsOf md dn k).length ≤ 400 := by
                have h1 : (lsOf md dn k).length ≤ dn.length := List.length_filter_le _ _
                have h2 : dn.length ≤ kc.length := g1.length_le_of_subset (fun x hx => (g2 x).1 hx)
                have := h.len
                omega
              have hcoreb : ∀ c, c ∈ lsOf md dn k → wb.cell? ⟨c, 35, none⟩ = some (.int .u32 (wdf c)) ∧ wb.cell? ⟨c, 37, none⟩ = some (.int .u64 (idf c)) := by
                intro c hc
                have hcm : c ∈ c0 :: kc := List.mem_cons_of_mem _ ((hls k c).1 hc).1
                have hn : ¬ (Y c ∨ c = L) := fun e => e.elim (h.yc c hcm) (fun e => g7 (e ▸ hcm))
                exact ⟨TB5.cell (ecore c hcm).1 hn, TB5.cell (ecore c hcm).2 hn⟩
              have hC2b := TB5.cell e5 (fun e => e.elim hC2 (fun e => hLX.2.2.2 e.symm))
              have x2 := TB5.cell e2 (fun e => e.elim (h.ySs S2 (by simp)) (fun e => hLX.1 e.symm))
              have x3 := TB5.cell e3 (fun e => e.elim (h.ySs S3 (by simp)) (fun e => hLX.2.1 e.symm))
              obtain ⟨vv, hvv, ⟨aa, cc, rfl⟩, hlk⟩ := lookList (Q := fun c => c ∈ c0 :: kc ∧ Wants md wdf idf set q older c) (.inl rfl) hY L wr.heap.size w.heap.size k q older (lsOf md dn) wdf idf (by omega) hlen (g1.filter _) h.qr h.ids wb
                (hG.lists.turned TB (fun _ _ h => h.elim) g4) hcoreb (by rw [Nat.mul_comm]; exact hC1) hC2b (visit go [] D).1 (hY.keep _ _ _ _ hG.j TB (fun _ _ h => h))
                (fun c hc hw hf => ⟨List.mem_cons_of_mem _ ((hls k c).1 hc).1, hw, by rw [((hls k c).1 hc).2]; exact HM.out, hf⟩)
                (fun c hc hx => by
                  rcases visit_mem go _ _ _ hx with hx | hx
                  · simp at hx
                  · obtain ⟨u1, _⟩ := (hG.mem c).1 hx
                    obtain ⟨u2, u3⟩ := (hls k c).1 hc
                    rcases u1 with rfl | u1
                    · exact hc0 u2
                    · omega)
                g4 (fun c hc => h.yc c (List.mem_cons_of_mem _ ((hls k c).1 hc).1)) (fun hy => by have := hyold5 _ hy; omega) hC2 (fun b hb => by have := hyold5 b hb; have := TB.size; omega) g5 (fun c hc e => g7 (e ▸ List.mem_cons_of_mem _ ((hls k c).1 hc).1)) (by omega) (fun e => hLX.2.2.2 e.symm)
              rw [Nat.mul_comm 4 k] at hvv hlk
              obtain ⟨nl, hnl⟩ : ∃ nl, nl = (lsOf md dn k).length := ⟨_, rfl⟩
              rw [← hnl] at hvv hlk hlen
              clear hnl
              have hc0n := hc0
              have hlook : Hid (∀ b w', ListLooked go J Y L (lsOf md dn) wdf idf q older (lsOf md dn k) (visit go [] D).1 wb b w' → (b = true → ∃ D', Going w5 Y go J L c0 kc md wdf idf set q older (lsOf md dn) (k + 1) D' w') ∧ (b = false → SeqPost Y M [S1, S2, S3, S4] go J s c0 fm (some o) m cnt kc v md wdf idf set q older w')) := by
                intro b w' hl
                refine ⟨fun e => ?_, fun e => ?_⟩
                · subst e
                  exact hG.looked (fun c => hls k c) HM.out hc0 TB hl
                · subst e
                  obtain ⟨z1, z2, z3⟩ := hG.stopped (fun c => hls k c) HM.out hc0 hkn TB hl
                  exact hfin w' z3 z2 z1
              have hnC1 : ¬ (Y wr.heap.size ∨ wr.heap.size = L) := fun e => e.elim (fun hy => by have := hyold5 _ hy; omega) (fun e => by omega)
              have hY3 := h.ySs S3 (by simp)
              have hY2 := h.ySs S2 (by simp)
              have hlk2 : Calls Yba.prog 25 #[.pointer (some ⟨L, k * 4 + 1, none⟩), .int .i64 (nl : Nat), .func (.func 26) #[.pointer (some ⟨L, k * 4, none⟩)] #[], .int .i64 0, .int .i64 (nl : Nat), .int .u64 q, .bool older, .func (.func 27) #[] #[.pointer (some ⟨wr.heap.size, 0, none⟩), .pointer (some ⟨w.heap.size, 0, none⟩)]] wb fun e w' => ∃ b, e = .returned (.bool b) ∧ Hid (w'.cell? ⟨wr.heap.size, 0, none⟩ = some (.pointer (some ⟨L, k * 4, none⟩)) ∧ w'.cell? ⟨L, k * 4, none⟩ = some (.slice aa nl cc) ∧ w'.cell? ⟨S3, 0, none⟩ = some (.int .u64 q) ∧ w'.cell? ⟨S2, 0, none⟩ = some (.bool older)) ∧ ((b = true → ∃ D', Going w5 Y go J L c0 kc md wdf idf set q older (lsOf md dn) (k + 1) D' w') ∧ (b = false → SeqPost Y M [S1, S2, S3, S4] go J s c0 fm (some o) m cnt kc v md wdf idf set q older w')) := by
                refine hlk.mono ?_
                rintro e w' ⟨b, rfl, hl, hcl⟩
                obtain ⟨E, _, _, _, _, hTl, _⟩ := id hl
                refine ⟨b, rfl, ⟨hTl.cell hC1 hnC1, hcl, hTl.cell x3 (fun e => e.elim hY3 (fun e => hLX.2.1 e.symm)), hTl.cell x2 (fun e => e.elim hY2 (fun e => hLX.1 e.symm))⟩, hlook.out _ _ hl⟩
              clear hlook hlk
              subst hwb
              have hS : Hid ((wr.alloc (.cells #[.pointer (some ⟨L, k * 4, none⟩)] 107)).drew.cell? ⟨wr.heap.size, 0, none⟩ = some (.pointer (some ⟨L, k * 4, none⟩)) ∧ (wr.alloc (.cells #[.pointer (some ⟨L, k * 4, none⟩)] 107)).drew.cell? ⟨L, k * 4, none⟩ = some (.slice aa nl cc) ∧ (wr.alloc (.cells #[.pointer (some ⟨L, k * 4, none⟩)] 107)).drew.cell? ⟨S3, 0, none⟩ = some (.int .u64 q) ∧ (wr.alloc (.cells #[.pointer (some ⟨L, k * 4, none⟩)] 107)).drew.cell? ⟨S2, 0, none⟩ = some (.bool older)) := ⟨hC1, hvv, x3, x2⟩
              clear hfin hC1 hvv x3 x2 hC2b hcoreb TB5 TB hc0n
              go_upto_region 11 with (go_at_call 21; refine hh.mono ?_; rintro e w' ⟨rfl, rfl⟩)
              go_cut [11] (fun s11 wc => ∃ b, s11 = .bool b ∧ (b = true → ∃ D', Going w5 Y go J L c0 kc md wdf idf set q older (lsOf md dn) (k + 1) D' wc) ∧ (b = false → SeqPost Y M [S1, S2, S3, S4] go J s c0 fm (some o) m cnt kc v md wdf idf set q older wc))
              case first =>
                clear hG h h4 hY
                go_region_held3 (fun w' => w'.cell? ⟨wr.heap.size, 0, none⟩ = some (.pointer (some ⟨L, k * 4, none⟩)) ∧ w'.cell? ⟨L, k * 4, none⟩ = some (.slice aa nl cc) ∧ w'.cell? ⟨S3, 0, none⟩ = some (.int .u64 q) ∧ w'.cell? ⟨S2, 0, none⟩ = some (.bool older)) (first | exact hS2.out | exact hS.out) (first | (go_at_call 25; refine hlk2.mono ?_; rintro e w' ⟨b, rfl, hS2, hb⟩))
                all_goals
                  go_wp2_with fail
                  go_meet
                  case rel => exact ⟨b, rfl, hb⟩
              case rest =>
                obtain ⟨b, rfl, hb1, hb2⟩ := hcut
                clear hS hlk2
                cases b with
                | true =>
                  obtain ⟨D', hG'⟩ := hb1 rfl
                  clear hb1 hb2
                  go_wp2_with fail
                  go_roundw
                  case rel => exact ⟨k + 1, D', by go_num, by omega, by omega, hG'⟩
                  case measure => simp [intOf]; omega
                | false =>
                  have fin := hb2 rfl
                  clear hb1 hb2
                  go_wp2_with fail
                  exact bodyPost_ret (v := .tuple #[]) (by simp [results, Yba.results22]) rfl ⟨rfl, fin⟩
          · obtain rfl : k = 6 := by omega
            have fin := hfin wr hG.turn hG.lists (hG.done (fun c hc => (h.mdr c (List.mem_cons_of_mem _ hc)).2))
            go_wp2_with fail
            go_end0
            exact ⟨rfl, fin⟩
end Go.Proofs.Ybulkcrkq
