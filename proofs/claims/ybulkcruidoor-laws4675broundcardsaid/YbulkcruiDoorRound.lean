/- endlessSupply.Round over the law's own node. -/
import Derived.Test.YbulkcruiDoorGrow
namespace Go.Proofs.YbulkcruiDoor
open Go.ChangeShapes Go.WideShapes Go.ChangeAt Go.RowKit
set_option maxHeartbeats 2000000
set_option maxRecDepth 20000
set_option linter.unusedVariables false

theorem sup_round (B sb nb fb db fl sl : Nat) (hfl : fl ≤ 1024) (hsl : sl ≤ 1024) (F S : List Value) (q f t r : Int) (hq : 0 ≤ q ∧ q < 3) (hq0 : fl = 0 → q = 0) (ra : Option Addr) (rl rc : Nat) (fa : Option Addr) (al ac : Nat) (ok : Bool) (w : World)
    (hs : RowAt w sb 36 3 (supRow nb (.slice (some ⟨fb, 0, none⟩) fl fl) (.slice (some ⟨db, 0, none⟩) sl sl)))
    (hn : RowAt w nb 31 9 (nodeRow q (.slice none 0 0) (.slice none 0 0) (.slice none 0 0) 0 f t (.slice fa al ac) ok))
    (hF : w.ownsRow B 3 1 (.slice (some ⟨fb, 0, none⟩) fl fl) fl F) (hS : w.ownsRow B 3 1 (.slice (some ⟨db, 0, none⟩) sl sl) sl S)
    (hfd : fb ≠ db) (hsn : sb ≠ nb) (hfs : fb ≠ sb ∧ fb ≠ nb ∧ db ≠ sb ∧ db ≠ nb) (hsB : B ≤ sb) (hnB : B ≤ nb) (hB : B ≤ w.heap.size) (htab : Lib.TabBelow Ybad.prog B w tabName .u64 Lib.pow10Tab) :
    Calls Ybad.prog 4 #[.pointer (some ⟨sb, 0, none⟩), .int .i64 r, .slice ra rl rc] w fun e w' => e = .returned (.tuple #[.agg #[.int .i64 f, .int .i64 t, .slice fa al ac], .bool ok]) ∧ Rounded B sb nb fb db fl sl F S q f t r (.slice fa al ac) (.slice ra rl rc) ok w w' := by
  have s0 := hs.cell (show 0 < 3 by omega)
  simp [supRow] at s0
  have hls := hs.lt
  have hln := hn.lt
  have hfw := (hF.lt fb rfl).2
  have hdw := (hS.lt db rfl).2
  have mq := meth_q
  have K0 := row_lit w #[.int .i64 0, .int .i64 0, .slice none 0 0] 26 3 rfl (fun j => #[Value.int .i64 0, .int .i64 0, .slice none 0 0][j]!) (fun j hj => by
    have : j = 0 ∨ j = 1 ∨ j = 2 := by omega
    rcases this with rfl | rfl | rfl <;> rfl)
  have hn1 : Hid (RowAt (w.alloc (.cells #[.int .i64 0, .int .i64 0, .slice none 0 0] 26)) nb 31 9 _) := hn.alloc _
  go_enter Ybad.func4, Ybad.ntmps4
  go_upto_if 13 with (go_at_call 38; refine (queued_any nb q _ _ _ f t _ ok _ hn1.out).mono ?_; rintro e w1 ⟨rfl, hn2, hT2⟩)
  have T1 : Turned w w1 (fun b => b = nb) := ((Turned.refl w _).alloc _).trans (hT2.mono (fun _ _ h => .inl h))
  have K1 := hT2.row K0 (show ¬ w.heap.size = nb by omega)
  have hs1 := hT2.row (hs.alloc _) hsn
  have hF1 := hT2.own (hF.alloc _) (fun k hk => by simp [Value.ownBlock] at hk; omega)
  have hS1 := hT2.own (hS.alloc _) (fun k hk => by simp [Value.ownBlock] at hk; omega)
  have htab1 := htab.on (T1.below hB (fun i hi => by omega))
  have hB1 : B ≤ w1.heap.size := Nat.le_trans hB T1.size
  have hz0 : w.heap.size + 1 ≤ w1.heap.size := by have := hT2.size; simpa using this
  clear hn1 K0 mq hs hn s0 hF hS hT2
  go_cut [] (fun wc => Grown B sb nb fb db fl sl F S q f t (.slice fa al ac) ok w1 wc)
  case first =>
    have s0 := hs1.cell (show 0 < 3 by omega)
    have s1 := hs1.cell (show 1 < 3 by omega)
    have s2 := hs1.cell (show 2 < 3 by omega)
    simp [supRow] at s0 s1 s2
    by_cases hq1 : q = 0
    · subst hq1
      have mb := meth_b
      have ab := ahead_b
      have tabD : Hid (Lib.TabBelow Ybad.prog B w1.drew tabName .u64 Lib.pow10Tab) := fun w' h => htab1 w' ⟨h.os, h.tape, h.output, h.size, fun b hb => h.block b hb⟩
      go_upto_region 2 with fail
      go_cut [] (fun wc => Cast nb fl f t (.slice fa al ac) ok w1 wc)
      case first =>
        go_region_with (first
          | (go_at_call 7; refine (append_dec B fl hfl w1.drew hB1 tabD.out).mono ?_; rintro e w2 ⟨g, n, cap, rfl, hn21, ho2, hT2⟩; have hn2' := hT2.row hn2.drew (fun h => h); have hs2 := hT2.row hs1.drew (fun h => h); have s0' := hs2.cell (show 0 < 3 by omega); simp [supRow] at s0')
          | (go_at_call 37; refine (broadcast_any nb 0 (by omega) _ _ 1 f t _ ok _ g n cap (by omega) _ (one_bytes _) _ hn2' ho2).mono ?_; rintro e w3 ⟨rfl, pb, pc, cb, hn3, hpb, hpl, hcl, hcp, ho3, hT3⟩))
        all_goals
          have z2 : w1.heap.size ≤ w2.heap.size := hT2.size
          have T3 : Turned w1 w3 (fun b => b = nb) := Turned.trans (b := w2) ⟨hT2.os, hT2.tape, hT2.output, hT2.size, fun b hb _ => hT2.block b hb (fun h => h)⟩ (hT3.mono (fun _ _ h => .inl h))
          have C3 : Hid (Cast nb fl f t (.slice fa al ac) ok w1 w3) := ⟨pb, pc, cb, n, hn3, hpb, Nat.le_trans z2 hpl, Nat.le_trans z2 hcl, ownsRow_base ho3 z2, T3⟩
          clear hn3 hpb hpl hcl hcp ho3 hT3 hT2 hn2' hs2 ho2 T3
          go_wp2_with fail
          go_meet
          case rel => exact C3.out
      case rest =>
        obtain ⟨w3, rfl⟩ : ∃ w3 : World, w3 = wc := ⟨_, rfl⟩
        obtain ⟨pb, pc, cb, n, hn3, hpb, hpl, hcl, ho3, T3⟩ := hcut
        have hs3 := T3.row hs1 hsn
        have hF3 := T3.own hF1 (fun k hk => by simp [Value.ownBlock] at hk; omega)
        have hS3 := T3.own hS1 (fun k hk => by simp [Value.ownBlock] at hk; omega)
        have hls3 := hs3.lt
        have hls1 := hs1.lt
        have hFl := hF3.lt fb rfl
        have hSl := hS3.lt db rfl
        have hnl := hn3.lt
        have a1 := hs3.cell (show 1 < 3 by omega)
        have aF := hs3.frozen
        simp [supRow] at a1
        obtain ⟨c4, w4, hr4, ho4, TA, hz4⟩ := growOne (w3.alloc (.cells #[.int .i64 0] 3)) B fb fl hfl F (hF3.alloc _) w3.heap.size (.int .i64 0) (cell_new_at _ _ _ _ rfl)
        simp only [World.size_alloc] at hr4 ho4 hz4
        have TA' : Turned w3 w4 (fun _ => False) := ((Turned.refl w3 _).alloc _).trans (TA.mono (fun _ _ h => h.elim))
        have hs4 := (TA'.row hs3 (fun h => h)).set 1 (.slice (some ⟨w3.heap.size + 1, 0, none⟩) (fl + 1) c4) (by omega)
        have TS : Turned w4 (w4.setCell ⟨sb, 1, none⟩ (.slice (some ⟨w3.heap.size + 1, 0, none⟩) (fl + 1) c4)) (fun b => b = sb) := (Turned.refl w4 (fun b => b = sb)).setCell ⟨sb, 1, none⟩ (.inl rfl) _
        have hF4 := TS.own ho4 (fun k hk => by simp [Value.ownBlock] at hk; omega)
        have hS4 := TS.own (TA'.own hS3 (fun _ _ h => h)) (fun k hk => by simp [Value.ownBlock] at hk; omega)
        have b1 := (TA'.row hs3 (fun h => h)).cell (show 1 < 3 by omega)
        have b2 := (TA'.row hs3 (fun h => h)).cell (show 2 < 3 by omega)
        have bF := (TA'.row hs3 (fun h => h)).frozen
        simp [supRow] at b1 b2
        obtain ⟨c5, w5, hr5, ho5, TB, hz5⟩ := growOne ((w4.setCell ⟨sb, 1, none⟩ (.slice (some ⟨w3.heap.size + 1, 0, none⟩) (fl + 1) c4)).alloc (.cells #[.int .i64 0] 3)) B db sl hsl S (hS4.alloc _) w4.heap.size (.int .i64 0) (cell_new_at _ _ _ _ (by simp))
        have zs : (w4.setCell ⟨sb, 1, none⟩ (.slice (some ⟨w3.heap.size + 1, 0, none⟩) (fl + 1) c4)).heap.size = w4.heap.size := by simp
        simp only [World.size_alloc, zs] at hr5 ho5 hz5
        have TB' : Turned (w4.setCell ⟨sb, 1, none⟩ (.slice (some ⟨w3.heap.size + 1, 0, none⟩) (fl + 1) c4)) w5 (fun _ => False) := ((Turned.refl _ _).alloc _).trans (TB.mono (fun _ _ h => h.elim))
        have hs5 := (TB'.row hs4 (fun h => h)).set 2 (.slice (some ⟨w4.heap.size + 1, 0, none⟩) (sl + 1) c5) (by omega)
        have d2 := (TB'.row hs4 (fun h => h)).cell (show 2 < 3 by omega)
        have dF := (TB'.row hs4 (fun h => h)).frozen
        simp [supRow, upd] at d2
        have TS5 : Turned w5 (w5.setCell ⟨sb, 2, none⟩ (.slice (some ⟨w4.heap.size + 1, 0, none⟩) (sl + 1) c5)) (fun b => b = sb) := (Turned.refl w5 (fun b => b = sb)).setCell ⟨sb, 2, none⟩ (.inl rfl) _
        have hz3 := T3.size
        -- from w3 to the end only sb is written
        have TE : Turned w3 (w5.setCell ⟨sb, 2, none⟩ (.slice (some ⟨w4.heap.size + 1, 0, none⟩) (sl + 1) c5)) (fun b => b = sb) :=
          (((TA'.mono (fun _ _ h => h.elim)).trans (TS.mono (fun _ _ h => .inl h))).trans (TB'.mono (fun _ _ h => h.elim))).trans (TS5.mono (fun _ _ h => .inl h))
        have TE1 : Turned w1 (w5.setCell ⟨sb, 2, none⟩ (.slice (some ⟨w4.heap.size + 1, 0, none⟩) (sl + 1) c5)) (fun b => b = sb ∨ b = nb ∨ b = fb ∨ b = db) := (T3.mono (fun _ _ h => .inr (.inl h))).trans (TE.mono (fun _ _ h => .inl (.inl h)))
        have hF5 := TS5.own (TB'.own hF4 (fun _ _ h => h)) (fun k hk => by simp [Value.ownBlock] at hk; omega)
        have hS5 := TS5.own ho5 (fun k hk => by simp [Value.ownBlock] at hk; omega)
        have G5 : Hid (Grown B sb nb fb db fl sl F S 0 f t (.slice fa al ac) ok w1 (w5.setCell ⟨sb, 2, none⟩ (.slice (some ⟨w4.heap.size + 1, 0, none⟩) (sl + 1) c5))) := by
          refine ⟨.slice (some ⟨w3.heap.size + 1, 0, none⟩) (fl + 1) c4, .slice (some ⟨w4.heap.size + 1, 0, none⟩) (sl + 1) c5, .slice (some ⟨pb, 0, none⟩) 1 pc, hs5.congr (fun j hj => ?_), TE.row hn3 (Ne.symm hsn), ownsRow_base hF5 (by omega), ownsRow_base hS5 (by omega), ?_, fun h => absurd rfl h, fun _ => ⟨pb, pc, cb, n, rfl, ?_, hpl, hcl, ?_, TE.own ho3 (fun k hk => by simp [Value.ownBlock] at hk; omega)⟩, ?_, ?_, TE1⟩
          · have : j = 0 ∨ j = 1 ∨ j = 2 := by omega
            rcases this with rfl | rfl | rfl <;> rfl
          · intro k hk hk'
            simp [Value.ownBlock] at hk hk'
            omega
          · rw [World.cell?_of_block (TE.block pb (World.block_lt_of_cell? w3 _ hpb) (show ¬ pb = sb by omega))]
            exact hpb
          · intro k hk
            have h1 := World.block_lt_of_cell? w3 _ hpb
            have h2 := ho3.lt cb rfl
            simp [Value.ownBlock] at hk
            simp only at h1
            omega
          · intro k hk
            simp [Value.ownBlock] at hk
            exact .inr (by omega)
          · intro k hk
            simp [Value.ownBlock] at hk
            exact .inr (by omega)
        clear mb ab tabD htab1 s0 s1 s2 hs1 hF1 hS1 hF4 hS4 hF5 hS5 TE TE1 TS5 hs5 hs4 ho4 ho5 TA TB TA' TB' TS hz4 hz5 ho3 hpb hF3 hS3 hs3 hn3
        go_wp2_with (first
          | (at_builtin; refine wpList_app_run rfl (.tmp 31) (.tmp 32) 22 rfl (.slice (some ⟨fb, 0, none⟩) fl fl) (.slice (some ⟨w3.heap.size, 0, none⟩) 1 1) rfl rfl (.slice (some ⟨w3.heap.size + 1, 0, none⟩) (fl + 1) c4) w4 hr4 ?_)
          | (at_builtin; refine wpList_app_run rfl (.tmp 40) (.tmp 41) 22 rfl (.slice (some ⟨db, 0, none⟩) sl sl) (.slice (some ⟨w4.heap.size, 0, none⟩) 1 1) rfl rfl (.slice (some ⟨w4.heap.size + 1, 0, none⟩) (sl + 1) c5) w5 hr5 ?_))
        go_meet
        case rel => exact G5.out
    · have hqb : (q == 0) = false := by simpa using hq1
      have G5 : Hid (Grown B sb nb fb db fl sl F S q f t (.slice fa al ac) ok w1 w1) := by
        refine ⟨_, _, .slice none 0 0, hs1, ?_, ?_, ?_, ?_, fun _ => rfl, fun h => absurd h hq1, ?_, ?_, Turned.refl _ _⟩
        · simpa [hq1] using hn2
        · simpa [hq1] using hF1
        · simpa [hq1] using hS1
        · intro k hk hk'
          simp [Value.ownBlock] at hk hk'
          omega
        · intro k hk
          simp [Value.ownBlock] at hk
          exact .inl hk.symm
        · intro k hk
          simp [Value.ownBlock] at hk
          exact .inl hk.symm
      clear hs1 hF1 hS1 hn2 s0 s1 s2 hq1
      go_wp2_with fail
      go_meet
      case rel => exact G5.out
  case rest =>
    obtain ⟨w5, rfl⟩ : ∃ w5 : World, w5 = wc := ⟨_, rfl⟩
    obtain ⟨fv, sv, pv, hs5, hn5, hF5, hS5, hfv, hp0, hp1, hfb, hdb, T5⟩ := hcut
    have hsvn : ¬ sv.ownBlock = some nb := fun h => by have := hdb nb h; have := T1.size; omega
    have hsvz : ¬ sv.ownBlock = some w.heap.size := fun h => by have := hdb _ h; omega
    have HP0 : Hid (q ≠ 0 → pv = .slice none 0 0) := hp0
    have HP1 : Hid (q = 0 → ∃ pb pc cb n, pv = .slice (some ⟨pb, 0, none⟩) 1 pc ∧ w5.cell? ⟨pb, 0, none⟩ = some (.slice (some ⟨cb, 0, none⟩) n n) ∧ w1.heap.size ≤ pb ∧ w1.heap.size ≤ cb ∧ (∀ k, fv.ownBlock = some k → k ≠ pb ∧ k ≠ cb) ∧ w5.ownsRow w1.heap.size 5 1 (.slice (some ⟨cb, 0, none⟩) n n) n (Lib.byteCells (Lib.itoa fl))) := hp1
    clear hp0 hp1
    obtain ⟨gr, hgr⟩ : ∃ gr : Nat, gr = if q = 0 then 1 else 0 := ⟨_, rfl⟩
    have hgi : ((if q = 0 then 1 else 0 : Int)) = (gr : Int) := by rw [hgr]; split <;> rfl
    rw [← hgr] at hF5 hS5
    rw [hgi] at hn5
    have hm1 : 1 ≤ fl + gr := by
      rw [hgr]
      split
      · omega
      · rename_i h
        have : fl ≠ 0 := fun h' => h (hq0 h')
        omega
    have hgr1 : gr ≤ 1 := by rw [hgr]; split <;> omega
    obtain ⟨g, c, rfl, hgB, hgl⟩ := own_pos hF5 hm1
    have hFl := hF1.lt fb rfl
    have hz1 := T1.size
    have hz5 := T5.size
    have hls1 := hs1.lt
    have hln1 := hn2.lt
    have hgg := hfb g rfl
    have hgs : g ≠ sb := by omega
    have hgn : g ≠ nb := by omega
    have hgz : g ≠ w.heap.size := by omega
    have s0 := hs5.cell (show 0 < 3 by omega)
    have s1 := hs5.cell (show 1 < 3 by omega)
    simp [supRow] at s0 s1
    have hFx : (F ++ List.replicate gr (Value.int .i64 0)).length = fl + gr := by simpa using hF5.1
    obtain ⟨u, hu⟩ : ∃ u, w5.cell? ⟨g, fl + gr - 1, none⟩ = some u := by
      rw [hF5.cellAt (fl + gr - 1) (by omega)]
      exact ⟨_, List.getElem?_eq_getElem (by omega)⟩
    have hfz := hF5.frozenAt (fl + gr - 1)
    have hsub : ((fl : Int) + (gr : Int)) - 1 = ((fl + gr - 1 : Nat) : Int) := by omega
    obtain ⟨k, hk⟩ : ∃ k : Nat, k = fl + gr - 1 := ⟨_, rfl⟩
    obtain ⟨m, hm⟩ : ∃ m : Nat, m = fl + gr := ⟨_, rfl⟩
    rw [← hk] at hu hfz
    rw [← hm] at hF5 s1 hm1
    have hidx : (m : Int) - 1 = (k : Int) := by omega
    have hkm : k < m := by omega
    have hm9 : m ≤ 1025 := by omega
    have HK : Hid (k = fl + gr - 1) := hk
    have HM : Hid (m = fl + gr) := hm
    have TS6 : Turned w5 (w5.setCell ⟨g, k, none⟩ (.int .i64 r)) (fun b => b = g) := (Turned.refl w5 (fun b => b = g)).setCell ⟨g, k, none⟩ (.inl rfl) _
    have hn6 : Hid (RowAt (w5.setCell ⟨g, k, none⟩ (.int .i64 r)) nb 31 9 _) := TS6.row hn5 (Ne.symm hgn)
    have s06 : (w5.setCell ⟨g, k, none⟩ (.int .i64 r)).cell? ⟨sb, 0, none⟩ = some (.iface 27 (.pointer (some ⟨nb, 0, none⟩))) := by
      rw [World.cell?_of_block (Below.heap_setCell _ _ _ _ (Ne.symm hgs))]; exact s0
    have mr := meth_r
    have HGR : Hid (gr = if q = 0 then 1 else 0) := hgr
    have HFB : Hid (g = fb ∨ w1.heap.size ≤ g) := hgg
    have HFV : Hid (∀ k, Value.ownBlock (.slice (some ⟨g, 0, none⟩) m c) = some k → ¬ sv.ownBlock = some k) := by rw [hm]; exact hfv
    rw [← hm] at HP1
    clear hk hm hgr hgi hsub hFx hfb hfv hgB hgg
    go_upto_region 5 with fail
    go_region
    have K5 := T5.row K1 (show ¬ (w.heap.size = sb ∨ w.heap.size = nb ∨ w.heap.size = fb ∨ w.heap.size = db) by omega)
    have K6 := (TS6.row K5 (Ne.symm hgz)).drew
    have S6 := (TS6.row hs5 (Ne.symm hgs)).drew
    have F6 : (w5.setCell ⟨g, k, none⟩ (.int .i64 r)).drew.ownsRow B 3 1 (.slice (some ⟨g, 0, none⟩) m c) m ((F ++ List.replicate gr (Value.int .i64 0)).set k (.int .i64 r)) := (hF5.stored k (.int .i64 r)).1
    have V6 : (w5.setCell ⟨g, k, none⟩ (.int .i64 r)).drew.ownsRow B 3 1 sv (sl + gr) (S ++ List.replicate gr (Value.int .i64 0)) := TS6.own hS5 (fun j hj e => HFV.out g rfl (by rw [hj]; exact congrArg some e))
    have T15 : Turned w w5 (fun b => b = sb ∨ b = nb ∨ b = fb ∨ b = db) := (T1.mono (fun _ _ h => .inr (.inl h))).trans (T5.mono (fun _ _ h => .inl h))
    have T6 := (T15.trans (TS6.mono (fun b _ h => by
      rcases HFB.out with h' | h'
      · exact .inl (.inr (.inr (.inl (h.trans h'))))
      · exact .inr (by omega)))).drew
    have P6 : Hid (q = 0 → ∃ pb pc cb n, pv = .slice (some ⟨pb, 0, none⟩) 1 pc ∧ (w5.setCell ⟨g, k, none⟩ (.int .i64 r)).drew.cell? ⟨pb, 0, none⟩ = some (.slice (some ⟨cb, 0, none⟩) n n) ∧ w.heap.size < pb ∧ w.heap.size < cb ∧ (w5.setCell ⟨g, k, none⟩ (.int .i64 r)).drew.ownsRow w1.heap.size 5 1 (.slice (some ⟨cb, 0, none⟩) n n) n (Lib.byteCells (Lib.itoa fl))) := by
      intro hq'
      obtain ⟨pb, pc, cb, n, h1, h2, h3, h4, h5, h6⟩ := HP1.out hq'
      have h7 := h5 g rfl
      refine ⟨pb, pc, cb, n, h1, ?_, by omega, by omega, TS6.own h6 (fun j hj e => by simp [Value.ownBlock] at hj; omega)⟩
      rw [World.cell?_drew, World.cell?_of_block (Below.heap_setCell _ _ _ _ (Ne.symm h7.1))]
      exact h2
    have N6 := hn6.out.drew
    have s06' : (w5.setCell ⟨g, k, none⟩ (.int .i64 r)).drew.cell? ⟨sb, 0, none⟩ = some (.iface 27 (.pointer (some ⟨nb, 0, none⟩))) := s06
    have z6 : w5.heap.size = (w5.setCell ⟨g, k, none⟩ (.int .i64 r)).drew.heap.size := by simp
    rw [z6] at hz5
    have svn : ¬ sv.ownBlock = some nb := hsvn
    have svz : ¬ sv.ownBlock = some w.heap.size := hsvz
    generalize (w5.setCell ⟨g, k, none⟩ (.int .i64 r)).drew = w6 at K6 S6 F6 V6 T6 P6 N6 s06' hz5 ⊢
    clear z6 TS6 T15 K5 HFV HFB HP1 hn6 s06 hu hfz hS5 hF5 hn5 hs5 T5 s0 s1 hidx
    go_wp2_with (go_at_call 39; refine (round_any nb _ pv 1 f t r ra rl rc fa al ac ok w6 N6).mono ?_; rintro e w7 ⟨rfl, xb, xc, yb, yc, hn7, hx7, hy7, hxl, hyl, T7⟩; have K7 := T7.row K6 (show ¬ w.heap.size = nb by omega); have d0 := K7.cell (show 0 < 3 by omega); have d1 := K7.cell (show 1 < 3 by omega); have d2 := K7.cell (show 2 < 3 by omega); have dF := K7.frozen; simp at d0 d1 d2)
    have K8 := ((K7.set 0 (.int .i64 f) (by omega)).set 1 (.int .i64 t) (by omega)).set 2 (.slice fa al ac) (by omega)
    have T8 : Turned w7 (((w7.setCell ⟨w.heap.size, 0, none⟩ (.int .i64 f)).setCell ⟨w.heap.size, 1, none⟩ (.int .i64 t)).setCell ⟨w.heap.size, 2, none⟩ (.slice fa al ac)) (fun b => b = w.heap.size) :=
      (((Turned.refl w7 (fun b => b = w.heap.size)).setCell ⟨w.heap.size, 0, none⟩ (.inl rfl) _).setCell ⟨w.heap.size, 1, none⟩ (.inl rfl) _).setCell ⟨w.heap.size, 2, none⟩ (.inl rfl) _
    generalize (((w7.setCell ⟨w.heap.size, 0, none⟩ (.int .i64 f)).setCell ⟨w.heap.size, 1, none⟩ (.int .i64 t)).setCell ⟨w.heap.size, 2, none⟩ (.slice fa al ac)) = w8 at K8 T8 ⊢
    have k0 := K8.cell (show 0 < 3 by omega)
    have k1 := K8.cell (show 1 < 3 by omega)
    have k2 := K8.cell (show 2 < 3 by omega)
    simp only [upd] at k0 k1 k2
    simp at k0 k1 k2
    have hz6 := T7.size
    have hgi : ((if q = 0 then 1 else 0 : Int)) = (gr : Int) := by rw [HGR.out]; split <;> rfl
    have hF8 := T8.own (T7.own F6 (fun j hj e => by simp [Value.ownBlock] at hj; omega)) (fun j hj e => by simp [Value.ownBlock] at hj; omega)
    have hV8 := T8.own (T7.own V6 (fun j hj e => svn (hj.trans (congrArg some e)))) (fun j hj e => svz (hj.trans (congrArg some e)))
    have hc8 : ∀ b, b ≠ w.heap.size → b < w7.heap.size → w8.cell? ⟨b, 0, none⟩ = w7.cell? ⟨b, 0, none⟩ := fun b hb hl => World.cell?_of_block (T8.block b hl hb)
    refine bodyPost_ret (v := .tuple #[.agg #[.int .i64 f, .int .i64 t, .slice fa al ac], .bool ok]) (by simp [results, Ybad.results4, go_sem, k0, k1, k2]) rfl ⟨rfl, ?_⟩
    unfold Rounded
    rw [← HM.out] at S6
    rw [← HGR.out, hgi, ← HK.out, ← HM.out]
    refine ⟨.slice (some ⟨g, 0, none⟩) m c, sv, pv, xb, xc, yb, yc, T8.row (T7.row S6 hsn) (by show ¬ sb = w.heap.size; omega), T8.row hn7 (by show ¬ nb = w.heap.size; omega), hF8, hV8, ?_, ?_, HP0.out, fun hq' => ?_, ?_⟩
    · rw [hc8 xb (by omega) (World.block_lt_of_cell? w7 _ hx7)]; exact hx7
    · rw [hc8 yb (by omega) (World.block_lt_of_cell? w7 _ hy7)]; exact hy7
    · obtain ⟨pb, pc, cb, n, h1, h2, h3, h4, h5⟩ := P6.out hq'
      have h6 := World.block_lt_of_cell? w6 _ h2
      refine ⟨pb, pc, cb, n, h1, ?_, ownsRow_base (T8.own (T7.own h5 (fun j hj e => by simp [Value.ownBlock] at hj; omega)) (fun j hj e => by simp [Value.ownBlock] at hj; omega)) (by omega)⟩
      rw [hc8 pb (by omega) (Nat.lt_of_lt_of_le h6 hz6), World.cell?_of_block (T7.block pb h6 (show ¬ pb = nb by omega))]
      exact h2
    · exact ((T6.trans (T7.mono (fun _ _ h => .inl (.inr (.inl h))))).trans (T8.mono (fun b _ h => .inr (by omega))))
end Go.Proofs.YbulkcruiDoor
