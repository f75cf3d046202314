/- LawS4675BRound, walked. -/
import Derived.Test.YbulkcruiDoorFin
import Derived.Deep.RegionHeld3
namespace Go.Proofs.YbulkcruiDoor
open Go.ChangeShapes Go.WideShapes Go.ChangeAt Go.RowKit
set_option maxHeartbeats 4000000
set_option maxRecDepth 30000
set_option linter.unusedVariables false

/-- The zero message's cells. -/
def msg0 : Array Value := #[.int .i64 0, .int .i64 0, .slice none 0 0]

theorem mkMsgs (n : Nat) (hn : n ≤ 1024) (w : World) :
    (Instr.makeSlice 24 (.int .i64 (n : Int)) (.int .i64 (n : Int))).run Ybad.prog w = .ok (.slice (some ⟨w.heap.size, 0, none⟩) n n) (w.alloc (.cells (madeCells msg0 (n * 3)) 26)) := by
  obtain ⟨i0, hi, hz0, hzs, hz2⟩ := info_parts info26
  have hb : (i0.bytes : Int) * (n : Int) ≤ 281474976710656 := by
    rw [hz2]
    omega
  have h := run_make (P := Ybad.prog) w 24 26 i0 (.agg msg0) Ybad.underlying24 hi hz0 .i64 .i64 (n : Int) (n : Int) (by omega) (by omega) hb (by omega)
  rw [h]
  simp [hzs, Value.cells]

theorem made_row (w : World) (z : Array Value) (n : Nat) (e : TypeId) : RowAt (w.alloc (.cells (madeCells z n) e)) w.heap.size e n (fun j => z[j % z.size]!) := by
  refine ⟨madeCells z n, (MapKept.heap_alloc w _).1, size_madeCells _ _, fun j hj => ?_⟩
  simp [madeCells, hj]

theorem law_in (Ff Sf Rf Af : Nat → Int) (fa : Option Addr) (fl fcp : Nat) (sa : Option Addr) (sl scp : Nat) (q r : Int) (ra : Option Addr) (rl rcp : Nat) (af at_ : Int) (aa : Option Addr) (al acp : Nat) (ok : Bool) (w : World)
    (hfl : fl ≤ 1024) (hsl : sl ≤ 1024) (hrl : rl ≤ 1024) (hal : al ≤ 1024) (hq : 0 ≤ q ∧ q ≤ 255)
    (hF : Shows .i64 Ff fa fl w) (hS : Shows .i64 Sf sa sl w) (hR : Shows .i64 Rf ra rl w) (hA : Shows .u8 Af aa al w) (hAf : ∀ j, 0 ≤ Af j ∧ Af j ≤ 255)
    (htab : Lib.TabBelow Ybad.prog w.heap.size w tabName .u64 Lib.pow10Tab) :
    Calls Ybad.prog 3 #[.slice fa fl fcp, .slice sa sl scp, .int .u8 q, .int .i64 r, .slice ra rl rcp, .int .i64 af, .int .i64 at_, .slice aa al acp, .bool ok] w fun e w' => e = .returned (.bool true) ∧ Below w.heap.size w w' := by
  have m1 := mkInts 22 3 (.int .i64 0) 8 rfl Ybad.underlying22 info3 (by omega)
  have mF := m1 fl hfl
  have mS := m1 sl hsl
  have mA := mkInts 23 5 (.int .u8 0) 1 rfl Ybad.underlying23 info5 (by omega) al hal
  have mR := mkMsgs rl hrl
  clear m1
  obtain ⟨w2, hc2, ho2, hT2, hz2⟩ := copyAll (w.alloc (.cells (zeros (.int .i64 0) fl) 3)) 22 3 Ybad.underlying22 size3 w.heap.size fl fl fa fcp _ (row_made w (.int .i64 0) fl 3) (by unfold maxLen; omega) _ (cellsOf_length .i64 Ff fl) (shows_src (hF.below ((Below.refl _ _).alloc (Nat.le_refl _) _))) (cellsOf_one _ _ _)
  have b2 : Below w.heap.size w w2 := ((Below.refl _ _).alloc (Nat.le_refl _) _).trans (hT2.below (by simp) (fun i hi => by omega))
  simp only [World.size_alloc] at hz2
  obtain ⟨w4, hc4, ho4, hT4, hz4⟩ := copyAll (w2.alloc (.cells (zeros (.int .i64 0) sl) 3)) 22 3 Ybad.underlying22 size3 w2.heap.size sl sl sa scp _ (row_made w2 (.int .i64 0) sl 3) (by unfold maxLen; omega) _ (cellsOf_length .i64 Sf sl) (shows_src (hS.below (b2.alloc (by omega) _))) (cellsOf_one _ _ _)
  have b4 : Below w.heap.size w w4 := (b2.alloc (by omega) _).trans (hT4.below (by simp; omega) (fun i hi => by omega))
  simp only [World.size_alloc] at hz4
  obtain ⟨w6, hc6, ho6, hT6, hz6⟩ := copyAll (w4.alloc (.cells (zeros (.int .u8 0) al) 5)) 23 5 Ybad.underlying23 size5 w4.heap.size al al aa acp _ (row_made w4 (.int .u8 0) al 5) (by unfold maxLen; omega) _ (cellsOf_length .u8 Af al) (shows_src (hA.below (b4.alloc (by omega) _))) (cellsOf_one _ _ _)
  have b6 : Below w.heap.size w w6 := (b4.alloc (by omega) _).trans (hT6.below (by simp; omega) (fun i hi => by omega))
  simp only [World.size_alloc] at hz6
  have hL0 : Hid (Laid w fl sl al rl Ff Sf Af Rf w.heap.size w2.heap.size w4.heap.size w6.heap.size 0 (w6.alloc (.cells (madeCells msg0 (rl * 3)) 26))) := by
    refine ⟨?_, ?_, ?_, ⟨_, made_row w6 msg0 (rl * 3) 26, fun i hi => by omega⟩, ⟨by omega, by omega, by omega⟩, b6.alloc (by omega) _⟩
    · exact ((hT6.own ((hT4.own (ho2.alloc _) (fun k hk => by simp [Value.ownBlock] at hk; omega)).alloc _) (fun k hk => by simp [Value.ownBlock] at hk; omega))).alloc _
    · exact ownsRow_base ((hT6.own (ho4.alloc _) (fun k hk => by simp [Value.ownBlock] at hk; omega)).alloc _) (by omega)
    · exact ownsRow_base (ho6.alloc _) (by omega)
  have Z2 : Hid (w2.heap.size = w.heap.size + 1) := hz2
  have Z4 : Hid (w4.heap.size = w2.heap.size + 1) := hz4
  have Z6 : Hid (w6.heap.size = w4.heap.size + 1) := hz6
  clear hz2 hz4 hz6 ho2 ho4 ho6 hT2 hT4 hT6 b2 b4 b6
  have q0 := Int.emod_nonneg q (show (3 : Int) ≠ 0 by omega)
  have q1 := Int.emod_lt_of_pos q (show (0 : Int) < 3 by omega)
  go_enter Ybad.func3, Ybad.ntmps3
  go_upto_if 58 with fail
  go_cut [19] (fun s19 wc => wc = w ∧ ∃ Q : Int, s19 = .int .i64 Q ∧ 0 ≤ Q ∧ Q < 3 ∧ (fl = 0 → Q = 0))
  case first =>
    as_aux_lemma =>
      by_cases h0 : fl = 0
      · have hb : ((fl : Int) == 0) = true := by simp; omega
        go_wp2_with fail
        go_meet
        case rel => exact ⟨rfl, 0, rfl, by omega, by omega, fun _ => rfl⟩
      · have hb : ((fl : Int) == 0) = false := by simp; omega
        go_wp2_with fail
        go_meet
        case rel => exact ⟨rfl, q % 3, rfl, by omega, by omega, fun h => absurd h h0⟩
  case rest =>
    obtain ⟨rfl, Q, rfl, hQ0, hQ3, hQf⟩ := hcut
    clear q0 q1 hq
    go_wp2_with fail
    obtain ⟨fb, hfb⟩ : ∃ fb : Nat, fb = wc.heap.size := ⟨_, rfl⟩
    go_loopw [24] (fun t wr => ∃ x : Nat, t = .int .i64 x ∧ x ≤ rl ∧ Laid wc fl sl al rl Ff Sf Af Rf wc.heap.size w2.heap.size w4.heap.size w6.heap.size x wr) (fun t _ => rl - (intOf t).toNat)
    case atStart => exact ⟨0, rfl, Nat.zero_le _, hL0.out⟩
    case round =>
      clear hL0 mF mS mA mR hc2 hc4 hc6
      obtain ⟨x, rfl, hx, hL⟩ := hrel
      by_cases hlt : x < rl
      · rcases hR.below hL.bel with h | ⟨b1, o1, rfl, hb1, hc1⟩
        · omega
        · have e1 := hc1 x hlt
          clear hc1
          obtain ⟨G, hG, hg⟩ := hL.rc
          have c0 := hG.cell (show x * 3 < rl * 3 by omega)
          have c1 := hG.cell (show x * 3 + 1 < rl * 3 by omega)
          have c2 := hG.cell (show x * 3 + 2 < rl * 3 by omega)
          have cF := hG.frozen
          have HL : Hid (Laid _ fl sl al rl Ff Sf Af Rf _ _ _ _ (x + 1) _) := hL.step hlt (.slice none 0 0) (Nat.le_refl _)
          clear hL hg hG
          go_wp2_with fail
          go_roundw
          case rel => exact ⟨x + 1, by go_num, by omega, HL.out⟩
          case measure => simp [intOf]; omega
      · obtain rfl : x = rl := by omega
        have z2 := Z2.out
        have z4 := Z4.out
        have z6 := Z6.out
        have hrb : w6.heap.size < wr.heap.size := by
          obtain ⟨G, hG, _⟩ := hL.rc
          exact hG.lt
        have hNode := row_lit wr #[.int .i64 Q, .slice none 0 0, .slice none 0 0, .slice none 0 0, .int .i64 0, .int .i64 af, .int .i64 at_, .slice (some ⟨w4.heap.size, 0, none⟩) al al, .bool ok] 31 9 rfl (nodeRow Q (.slice none 0 0) (.slice none 0 0) (.slice none 0 0) 0 af at_ (.slice (some ⟨w4.heap.size, 0, none⟩) al al) ok) (fun j hj => by
          have : j = 0 ∨ j = 1 ∨ j = 2 ∨ j = 3 ∨ j = 4 ∨ j = 5 ∨ j = 6 ∨ j = 7 ∨ j = 8 := by omega
          rcases this with rfl | rfl | rfl | rfl | rfl | rfl | rfl | rfl | rfl <;> rfl)
        have w9b : Below wr.heap.size wr (wr.alloc (.cells #[.int .i64 Q, .slice none 0 0, .slice none 0 0, .slice none 0 0, .int .i64 0, .int .i64 af, .int .i64 at_, .slice (some ⟨w4.heap.size, 0, none⟩) al al, .bool ok] 31)) := (Below.refl _ _).alloc (Nat.le_refl _) _
        have hSup := row_lit (wr.alloc (.cells #[.int .i64 Q, .slice none 0 0, .slice none 0 0, .slice none 0 0, .int .i64 0, .int .i64 af, .int .i64 at_, .slice (some ⟨w4.heap.size, 0, none⟩) al al, .bool ok] 31)) #[.iface 27 (.pointer (some ⟨wr.heap.size, 0, none⟩)), .slice (some ⟨wc.heap.size, 0, none⟩) fl fl, .slice (some ⟨w2.heap.size, 0, none⟩) sl sl] 36 3 rfl (supRow wr.heap.size (.slice (some ⟨wc.heap.size, 0, none⟩) fl fl) (.slice (some ⟨w2.heap.size, 0, none⟩) sl sl)) (fun j hj => by
          have : j = 0 ∨ j = 1 ∨ j = 2 := by omega
          rcases this with rfl | rfl | rfl <;> rfl)
        have hNode' := hNode.alloc (.cells #[.iface 27 (.pointer (some ⟨wr.heap.size, 0, none⟩)), .slice (some ⟨wc.heap.size, 0, none⟩) fl fl, .slice (some ⟨w2.heap.size, 0, none⟩) sl sl] 36)
        have w10b := w9b.alloc (by simp) (.cells #[.iface 27 (.pointer (some ⟨wr.heap.size, 0, none⟩)), .slice (some ⟨wc.heap.size, 0, none⟩) fl fl, .slice (some ⟨w2.heap.size, 0, none⟩) sl sl] 36)
        have F10 := (hL.fs.alloc (.cells #[.int .i64 Q, .slice none 0 0, .slice none 0 0, .slice none 0 0, .int .i64 0, .int .i64 af, .int .i64 at_, .slice (some ⟨w4.heap.size, 0, none⟩) al al, .bool ok] 31)).alloc (.cells #[.iface 27 (.pointer (some ⟨wr.heap.size, 0, none⟩)), .slice (some ⟨wc.heap.size, 0, none⟩) fl fl, .slice (some ⟨w2.heap.size, 0, none⟩) sl sl] 36)
        have S10 := (hL.sd.alloc (.cells #[.int .i64 Q, .slice none 0 0, .slice none 0 0, .slice none 0 0, .int .i64 0, .int .i64 af, .int .i64 at_, .slice (some ⟨w4.heap.size, 0, none⟩) al al, .bool ok] 31)).alloc (.cells #[.iface 27 (.pointer (some ⟨wr.heap.size, 0, none⟩)), .slice (some ⟨wc.heap.size, 0, none⟩) fl fl, .slice (some ⟨w2.heap.size, 0, none⟩) sl sl] 36)
        have hzr := hL.bel.size
        have tab10 := htab.on (hL.bel.trans ⟨w10b.os, w10b.tape, w10b.output, w10b.size, fun b hb => w10b.block b (by omega)⟩)
        simp only [World.size_alloc] at hSup
        have H10 : Hid (Calls Ybad.prog 4 #[.pointer (some ⟨wr.heap.size + 1, 0, none⟩), .int .i64 r, .slice (some ⟨w6.heap.size, 0, none⟩) x x] _ _) := sup_round wc.heap.size (wr.heap.size + 1) wr.heap.size wc.heap.size w2.heap.size fl sl hfl hsl _ _ Q af at_ r ⟨hQ0, hQ3⟩ hQf (some ⟨w6.heap.size, 0, none⟩) x x (some ⟨w4.heap.size, 0, none⟩) al al ok _ hSup hNode' F10 S10 (by omega) (by omega) ⟨by omega, by omega, by omega, by omega⟩ (by omega) (by omega) (by simp; omega) tab10
        have FO : Hid (∀ w11 w12 gb, Rounded wc.heap.size (wr.heap.size + 1) wr.heap.size wc.heap.size w2.heap.size fl sl (cellsOf .i64 Ff fl) (cellsOf .i64 Sf sl) Q af at_ r (.slice (some ⟨w4.heap.size, 0, none⟩) al al) (.slice (some ⟨w6.heap.size, 0, none⟩) x x) ok _ w11 → Below w11.heap.size w11 w12 → w12.cell? ⟨gb, 0, none⟩ = some (.int .i64 af) → w12.cell? ⟨gb, 1, none⟩ = some (.int .i64 at_) → w12.cell? ⟨gb, 2, none⟩ = some (.slice (some ⟨w4.heap.size, 0, none⟩) al al) →
            ∃ gr pv xb xc yb yc fg fc sa' sg sc, gr = (if Q = 0 then 1 else 0) ∧ Fin wc fl sl al x Ff Sf Af Rf Q r af at_ gr wr.heap.size (wr.heap.size + 1) gb pv xb xc yb yc fg fc sa' sg sc w6.heap.size w4.heap.size w12) :=
          fun w11 w12 gb hR' h12 g0 g1 g2 => fin_of hL hQf w10b (Nat.le_refl _) (by omega) hR' h12 g0 g1 g2 (Nat.le_refl _)
        clear hNode hNode' hSup F10 S10 tab10 w9b w10b htab hL z2 z4 z6 Z2 Z4 Z6 hrb
        go_wp2_with fail
        refine H10.out.mono ?_
        rintro e w11 ⟨rfl, hR11⟩
        go_upto_region 20 with fail
        obtain ⟨gr, pv, xb, xc, yb, yc, fg, fc, sa', sg, sc, hgr, hFin⟩ := FO.out w11 (w11.alloc (.cells #[.int .i64 af, .int .i64 at_, .slice (some ⟨w4.heap.size, 0, none⟩) al al] 26)) w11.heap.size hR11 ((Below.refl _ _).alloc (Nat.le_refl _) _) (by simp) (by simp) (by simp)
        have hgr1 : gr ≤ 1 := by rw [hgr]; split <;> omega
        have hpos : 1 ≤ fl + gr := by
          rw [hgr]
          split
          · omega
          · rename_i h
            have : fl ≠ 0 := fun h' => h (hQf h')
            omega
        obtain ⟨gb, hgb⟩ : ∃ gb : Nat, gb = w11.heap.size := ⟨_, rfl⟩
        rw [← hgb] at hFin ⊢
        obtain ⟨nb, hnb⟩ : ∃ nb : Nat, nb = wr.heap.size := ⟨_, rfl⟩
        rw [← hnb] at hFin ⊢
        obtain ⟨sb, hsb⟩ : ∃ sb : Nat, sb = nb + 1 := ⟨_, rfl⟩
        rw [← hsb] at hFin ⊢
        obtain ⟨rb, hrb⟩ : ∃ rb : Nat, rb = w6.heap.size := ⟨_, rfl⟩
        rw [← hrb] at hFin ⊢
        obtain ⟨ab, hab⟩ : ∃ ab : Nat, ab = w4.heap.size := ⟨_, rfl⟩
        rw [← hab] at hFin ⊢
        generalize w11.alloc (.cells #[.int .i64 af, .int .i64 at_, .slice (some ⟨ab, 0, none⟩) al al] 26) = wd at hFin ⊢
        have HGR : Hid (gr = if Q = 0 then 1 else 0) := hgr
        clear hgb hnb hsb hrb hab FO H10 hR11 hgr hfb hzr
        have hA' := hA.below hFin.bel
        have hfr : Shows .u8 Af (some ⟨ab, 0, none⟩) al wd := by
          by_cases h0 : al = 0
          · exact .inl h0
          · exact .inr ⟨ab, 0, rfl, World.block_lt_of_cell? wd _ (hFin.fr 0 (by omega)), fun j hj => by rw [Nat.zero_add]; exact hFin.fr j hj⟩
        have g0 := hFin.g0
        have g1 := hFin.g1
        have g2 := hFin.g2
        go_wp2_with fail
        refine (byteseq_same Af hAf (some ⟨ab, 0, none⟩) aa al al acp hal wd hfr hA').mono ?_
        rintro e we ⟨rfl, hbe⟩
        have hFe := hFin.keep hbe
        clear hFin hbe g0 g1 g2 hfr hA' hA
        go_upto_region 22 with fail
        have n2 := hFe.n2
        have n3 := hFe.n3
        have n4 := hFe.n4
        have x0 := hFe.x0
        have y0 := hFe.y0
        go_wp2_with fail
        clear n2 n3 n4 x0 y0
        go_loopw [30] (fun t wr => ∃ i : Nat, t = .int .i64 i ∧ i ≤ x ∧ Below we.heap.size we wr) (fun t _ => x - (intOf t).toNat)
        case atStart => exact ⟨0, rfl, Nat.zero_le _, Below.refl _ _⟩
        case round =>
          obtain ⟨i, rfl, hi, hbi⟩ := hrel
          have hFi := hFe.keep hbi
          clear hFe
          by_cases hlt2 : i < x
          · rcases hR.below hFi.bel with h | ⟨b1, o1, rfl, hb1, hc1⟩
            · omega
            · have e1 := hc1 i hlt2
              have e2 := hFi.rc0 i hlt2
              have e3 := hFi.rc1 i hlt2
              clear hc1
              go_wp2_with fail
              go_quiet (fail)
              go_wp2_with fail
              go_roundw
              case rel => exact ⟨i + 1, by go_num, by omega, ⟨hbi.os, hbi.tape, hbi.output, hbi.size, fun b hb => hbi.block b hb⟩⟩
              case measure => simp [intOf]; omega
          · go_upto_if 198 with fail
            obtain ⟨wi, rfl⟩ : ∃ wi : World, wi = wr := ⟨_, rfl⟩
            go_cut [31] (fun s31 wc => s31 = .int .i64 gr ∧ Below wi.heap.size wi wc)
            case first =>
              as_aux_lemma =>
                have n1 := hFi.n1
                by_cases hQ : Q = 0
                · have hQb : (Q == 0) = true := by simpa using hQ
                  obtain ⟨pb, pc, cb, n, rfl, c0, rfl, hcv⟩ := hFi.p1 hQ
                  have hg1 : gr = 1 := by rw [HGR.out, if_pos hQ]
                  have HG1 : Hid (gr = 1) := hg1
                  have conv : Hid (∀ w', Below wi.heap.size wi w' → (convert 23 9 (.slice (some ⟨cb, 0, none⟩) (Lib.decDigits fl).length (Lib.decDigits fl).length)).run Ybad.prog w' = .ok (.string ⟨(Lib.decDigits fl).toArray⟩) w') := by
                    intro w' hw'
                    refine run_convert_bytes_back (P := Ybad.prog) w' 23 9 5 ⟨cb, 0, none⟩ _ (Lib.decDigits fl) Ybad.underlying23 Ybad.underlying5 Ybad.underlying9 (fun j hj => ?_)
                    have e : (⟨cb, 0, none⟩ : Addr).add j = ⟨cb, j, none⟩ := by
                      by_cases h0 : j = 0
                      · subst h0; simp [Addr.add]
                      · simp [Addr.add, h0]
                    rw [e]
                    exact (hw'.cell (World.block_lt_of_cell? wi _ (hcv j hj))).trans (hcv j hj)
                  have cd := conv.out wi.drew ⟨rfl, rfl, rfl, Nat.le_refl _, fun _ _ => rfl⟩
                  clear hg1 hcv hFi hQ
                  go_upto_region 35 with fail
                  have bD : Below wi.heap.size wi wi.drew := ⟨rfl, rfl, rfl, Nat.le_refl _, fun _ _ => rfl⟩
                  have hk : Hid (∀ w', Below wi.heap.size wi w' → w'.cell? ⟨nb, 1, none⟩ = some (.slice (some ⟨pb, 0, none⟩) 1 pc) ∧ w'.cell? ⟨pb, 0, none⟩ = some (.slice (some ⟨cb, 0, none⟩) (Lib.decDigits fl).length (Lib.decDigits fl).length) ∧ (convert 23 9 (.slice (some ⟨cb, 0, none⟩) (Lib.decDigits fl).length (Lib.decDigits fl).length)).run Ybad.prog w' = .ok (.string ⟨(Lib.decDigits fl).toArray⟩) w') :=
                    fun w' hb => ⟨(hb.cell (World.block_lt_of_cell? wi _ n1)).trans n1, (hb.cell (World.block_lt_of_cell? wi _ c0)).trans c0, conv.out w' hb⟩
                  clear conv cd n1 c0
                  go_region_held3 (fun w' => w'.cell? ⟨nb, 1, none⟩ = some (.slice (some ⟨pb, 0, none⟩) 1 pc) ∧ w'.cell? ⟨pb, 0, none⟩ = some (.slice (some ⟨cb, 0, none⟩) (Lib.decDigits fl).length (Lib.decDigits fl).length) ∧ (convert 23 9 (.slice (some ⟨cb, 0, none⟩) (Lib.decDigits fl).length (Lib.decDigits fl).length)).run Ybad.prog w' = .ok (.string ⟨(Lib.decDigits fl).toArray⟩) w') (first | exact hk.out _ hb9' | exact hk.out _ bD) (first | (go_at_call 6; refine (itoa_any fl hfl wi.drew).mono ?_; rintro e w9 ⟨rfl, hb9⟩; have hb9' : Below wi.heap.size wi w9 := ⟨hb9.os, hb9.tape, hb9.output, hb9.size, fun b hb => hb9.block b hb⟩))
                  all_goals
                    go_wp2_with fail
                    go_meet
                    case rel => exact ⟨by rw [HG1.out]; rfl, hb9'⟩
                · have hQb : (Q == 0) = false := by simpa using hQ
                  have hpv := hFi.p0 hQ
                  have hg0 : gr = 0 := by rw [HGR.out, if_neg hQ]
                  have HG0 : Hid (gr = 0) := hg0
                  rw [hpv] at n1
                  clear hFi hpv hg0
                  go_wp2_with fail
                  go_meet
                  case rel => exact ⟨by rw [HG0.out]; rfl, Below.refl _ _⟩
            case rest =>
              obtain ⟨wk, rfl⟩ : ∃ wk : World, wk = wc := ⟨_, rfl⟩
              obtain ⟨rfl, hbk⟩ := hcut
              have hFk := hFi.keep hbk
              clear hFi hbk
              have s1 := hFk.s1
              have s2 := hFk.s2
              obtain ⟨m, hm0⟩ : ∃ m : Nat, m = fl + gr - 1 := ⟨_, rfl⟩
              have hm1 : (fl : Int) + (gr : Int) - 1 = (m : Int) := by omega
              have hmf : m ≤ fl := by omega
              have hmg : m < fl + gr := by omega
              have HM : Hid (m = fl + gr - 1) := hm0
              clear hm0
              go_wp2_with fail
              clear s1 s2 hR hlt2 hi HGR hQf hQ0 hQ3
              go_loopw [33] (fun t wr => ∃ j : Nat, t = .int .i64 j ∧ j ≤ m ∧ Below wk.heap.size wk wr) (fun t _ => m - (intOf t).toNat)
              case atStart => exact ⟨0, rfl, Nat.zero_le _, Below.refl _ _⟩
              case round =>
                obtain ⟨j, rfl, hj, hbj⟩ := hrel
                have hFj := hFk.keep hbj
                clear hFk
                by_cases hjm : j < m
                · as_aux_lemma =>
                    rcases hF.below hFj.bel with h | ⟨b1, o1, rfl, hb1, hc1⟩
                    · omega
                    · have e1 := hc1 j (by omega)
                      have e2 := hFj.s1
                      have e3 := hFj.f1 j (by rw [← HM.out]; exact hjm)
                      clear hc1
                      go_wp2_with fail
                      go_quiet (fail)
                      go_wp2_with fail
                      go_roundw
                      case rel => exact ⟨j + 1, by go_num, by omega, ⟨hbj.os, hbj.tape, hbj.output, hbj.size, fun b hb => hbj.block b hb⟩⟩
                      case measure => simp [intOf]; omega
                · have e2 := hFj.s1
                  have e3 := hFj.f2
                  rw [← HM.out] at e3
                  clear hF
                  go_wp2_with fail
                  clear e2 e3
                  obtain ⟨wl, rfl⟩ : ∃ wl : World, wl = wr := ⟨_, rfl⟩
                  go_loopw [34] (fun t wr => ∃ k : Nat, t = .int .i64 k ∧ k ≤ sl ∧ Below wl.heap.size wl wr) (fun t _ => sl - (intOf t).toNat)
                  case atStart => exact ⟨0, rfl, Nat.zero_le _, Below.refl _ _⟩
                  case round =>
                    obtain ⟨k, rfl, hk, hbk⟩ := hrel
                    have hFl := hFj.keep hbk
                    clear hFj
                    by_cases hks : k < sl
                    · as_aux_lemma =>
                        rcases hS.below hFl.bel with h | ⟨b1, o1, rfl, hb1, hc1⟩
                        · omega
                        · have e1 := hc1 k hks
                          have e2 := hFl.s2
                          rw [hFl.sa' (by omega)] at e2
                          have e3 := hFl.v1 k hks
                          clear hc1
                          go_wp2_with fail
                          go_quiet (fail)
                          go_wp2_with fail
                          go_roundw
                          case rel => exact ⟨k + 1, by go_num, by omega, ⟨hbk.os, hbk.tape, hbk.output, hbk.size, fun b hb => hbk.block b hb⟩⟩
                          case measure => simp [intOf]; omega
                    · as_aux_lemma =>
                        have hend := hFl.bel
                        by_cases hg1 : gr = 1
                        · have hgb : ((gr : Int) == 1) = true := by simp; omega
                          have e2 := hFl.s2
                          rw [hFl.sa' (by omega)] at e2
                          have e3 := hFl.v2 hg1
                          have hpos2 : sl < sl + gr := by omega
                          clear hFl hg1
                          go_wp2_with fail
                          go_ret
                          exact ⟨rfl, hend⟩
                        · have hgb : ((gr : Int) == 1) = false := by simp; omega
                          clear hFl hg1
                          go_wp2_with fail
                          go_ret
                          exact ⟨rfl, hend⟩
end Go.Proofs.YbulkcruiDoor
