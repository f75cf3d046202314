/- What LawS4675BRound has in memory: ahead of Round, and behind it. -/
import Derived.Test.YbulkcruiDoorRound
import Derived.Test.YbulkcruiDoorBytes
namespace Go.Proofs.YbulkcruiDoor
open Go.ChangeShapes Go.WideShapes Go.ChangeAt Go.RowKit
set_option maxHeartbeats 1000000
set_option maxRecDepth 20000
set_option linter.unusedVariables false

/-- The first n integers of f, as cells. -/
def cellsOf (k : IntKind) (f : Nat → Int) (n : Nat) : List Value := (List.range n).map fun j => .int k (f j)

theorem cellsOf_length (k : IntKind) (f : Nat → Int) (n : Nat) : (cellsOf k f n).length = n := by simp [cellsOf]
theorem cellsOf_at (k : IntKind) (f : Nat → Int) (n : Nat) {j : Nat} (hj : j < n) : (cellsOf k f n)[j]? = some (.int k (f j)) := by simp [cellsOf, hj]
theorem cellsOf_one (k : IntKind) (f : Nat → Int) (n : Nat) : ∀ u ∈ cellsOf k f n, u.oneCell' = true := by
  intro u hu
  obtain ⟨j, _, rfl⟩ := List.mem_map.1 hu
  rfl

theorem shows_src {k : IntKind} {f : Nat → Int} {a : Option Addr} {n : Nat} {w : World} (h : Shows k f a n w) : n = 0 ∨ ∃ ad, a = some ad ∧ ∀ j v, (cellsOf k f n)[j]? = some v → w.cell? (ad.add j) = some v := by
  rcases h with h | ⟨b, off, rfl, hb, hc⟩
  · exact .inl h
  · refine .inr ⟨_, rfl, fun j v hv => ?_⟩
    have hj : j < n := by
      have := (List.getElem?_eq_some_iff.1 hv).1
      rwa [cellsOf_length] at this
    rw [cellsOf_at k f n hj] at hv
    cases hv
    have e : (⟨b, off, none⟩ : Addr).add j = ⟨b, off + j, none⟩ := by
      by_cases h0 : j = 0
      · subst h0; simp [Addr.add]
      · simp [Addr.add, h0]
    rw [e]
    exact hc j hj

/-- Ahead of Round: copies of the three rows, and the row of messages, filled up to x. -/
structure Laid (w0 : World) (fl sl al rl : Nat) (Ff Sf Af Rf : Nat → Int) (fb db ab rb x : Nat) (w : World) : Prop where
  fs : w.ownsRow w0.heap.size 3 1 (.slice (some ⟨fb, 0, none⟩) fl fl) fl (cellsOf .i64 Ff fl)
  sd : w.ownsRow w0.heap.size 3 1 (.slice (some ⟨db, 0, none⟩) sl sl) sl (cellsOf .i64 Sf sl)
  fr : w.ownsRow w0.heap.size 5 1 (.slice (some ⟨ab, 0, none⟩) al al) al (cellsOf .u8 Af al)
  rc : ∃ G, RowAt w rb 26 (rl * 3) G ∧ ∀ i, i < x → G (i * 3) = .int .i64 (i : Int) ∧ G (i * 3 + 1) = .int .i64 (Rf i)
  ne : fb < db ∧ db < ab ∧ ab < rb
  bel : Below w0.heap.size w0 w

theorem ownsRow_below {w w' : World} {B C : Nat} {e : TypeId} {size : Nat} {v : Value} {n : Nat} {xs : List Value} (h : w.ownsRow C e size v n xs) (hw : Below B w w') (hv : ∀ k, v.ownBlock = some k → k < B) : w'.ownsRow C e size v n xs := by
  refine ⟨h.1, ?_⟩
  rcases h.2 with h' | ⟨g, cap, cur, rfl, hbg, hg, rest⟩
  · exact .inl h'
  · exact .inr ⟨g, cap, cur, rfl, hbg, (hw.block g (hv g rfl)).trans hg, rest⟩

theorem Laid.step {w0 : World} {fl sl al rl : Nat} {Ff Sf Af Rf : Nat → Int} {fb db ab rb x : Nat} {w : World} (h : Laid w0 fl sl al rl Ff Sf Af Rf fb db ab rb x w) (hx : x < rl) (v : Value) (hB : w0.heap.size ≤ fb) :
    Laid w0 fl sl al rl Ff Sf Af Rf fb db ab rb (x + 1) (((w.setCell ⟨rb, x * 3, none⟩ (.int .i64 (x : Int))).setCell ⟨rb, x * 3 + 1, none⟩ (.int .i64 (Rf x))).setCell ⟨rb, x * 3 + 2, none⟩ v) := by
  obtain ⟨G, hG, hg⟩ := h.rc
  obtain ⟨h1, h2, h3⟩ := h.ne
  have hT : Turned w (((w.setCell ⟨rb, x * 3, none⟩ (.int .i64 (x : Int))).setCell ⟨rb, x * 3 + 1, none⟩ (.int .i64 (Rf x))).setCell ⟨rb, x * 3 + 2, none⟩ v) (fun b => b = rb) :=
    (((Turned.refl w (fun b => b = rb)).setCell ⟨rb, x * 3, none⟩ (.inl rfl) _).setCell ⟨rb, x * 3 + 1, none⟩ (.inl rfl) _).setCell ⟨rb, x * 3 + 2, none⟩ (.inl rfl) _
  refine ⟨hT.own h.fs (fun k hk => by simp [Value.ownBlock] at hk; omega), hT.own h.sd (fun k hk => by simp [Value.ownBlock] at hk; omega), hT.own h.fr (fun k hk => by simp [Value.ownBlock] at hk; omega), ⟨_, ((hG.set (x * 3) _ (by omega)).set (x * 3 + 1) _ (by omega)).set (x * 3 + 2) _ (by omega), fun i hi => ?_⟩, h.ne, h.bel.trans (hT.below h.bel.size (fun i hi => by omega))⟩
  by_cases e : i = x
  · subst e
    simp [upd]
  · have hi' : i < x := by omega
    have := hg i hi'
    have a1 : i * 3 ≠ x * 3 + 2 := by omega
    have a2 : i * 3 ≠ x * 3 + 1 := by omega
    have a3 : i * 3 ≠ x * 3 := by omega
    have b1 : i * 3 + 1 ≠ x * 3 + 2 := by omega
    have b2 : i * 3 + 1 ≠ x * 3 + 1 := by omega
    have b3 : i * 3 + 1 ≠ x * 3 := by omega
    rw [upd_other _ _ _ a1, upd_other _ _ _ a2, upd_other _ _ _ a3, upd_other _ _ _ b1, upd_other _ _ _ b2, upd_other _ _ _ b3]
    exact this

/-- Behind Round, as cells. -/
structure Fin (w0 : World) (fl sl al rl : Nat) (Ff Sf Af Rf : Nat → Int) (Q r af at_ : Int) (gr : Nat) (nb sb gb : Nat) (pv : Value) (xb xc yb yc fg fc : Nat) (sa : Option Addr) (sg sc rb ab : Nat) (w : World) : Prop where
  n1 : w.cell? ⟨nb, 1, none⟩ = some pv
  n2 : w.cell? ⟨nb, 2, none⟩ = some (.slice (some ⟨xb, 0, none⟩) 1 xc)
  n3 : w.cell? ⟨nb, 3, none⟩ = some (.slice (some ⟨yb, 0, none⟩) 1 yc)
  n4 : w.cell? ⟨nb, 4, none⟩ = some (.int .i64 1)
  s1 : w.cell? ⟨sb, 1, none⟩ = some (.slice (some ⟨fg, 0, none⟩) (fl + gr) fc)
  s2 : w.cell? ⟨sb, 2, none⟩ = some (.slice sa (sl + gr) sc)
  sa' : 0 < sl + gr → sa = some ⟨sg, 0, none⟩
  g0 : w.cell? ⟨gb, 0, none⟩ = some (.int .i64 af)
  g1 : w.cell? ⟨gb, 1, none⟩ = some (.int .i64 at_)
  g2 : w.cell? ⟨gb, 2, none⟩ = some (.slice (some ⟨ab, 0, none⟩) al al)
  x0 : w.cell? ⟨xb, 0, none⟩ = some (.int .i64 r)
  y0 : w.cell? ⟨yb, 0, none⟩ = some (.slice (some ⟨rb, 0, none⟩) rl rl)
  rc0 : ∀ i, i < rl → w.cell? ⟨rb, i * 3, none⟩ = some (.int .i64 (i : Int))
  rc1 : ∀ i, i < rl → w.cell? ⟨rb, i * 3 + 1, none⟩ = some (.int .i64 (Rf i))
  fr : ∀ j, j < al → w.cell? ⟨ab, j, none⟩ = some (.int .u8 (Af j))
  f1 : ∀ j, j < fl + gr - 1 → w.cell? ⟨fg, j, none⟩ = some (.int .i64 (Ff j))
  f2 : w.cell? ⟨fg, fl + gr - 1, none⟩ = some (.int .i64 r)
  v1 : ∀ j, j < sl → w.cell? ⟨sg, j, none⟩ = some (.int .i64 (Sf j))
  v2 : gr = 1 → w.cell? ⟨sg, sl, none⟩ = some (.int .i64 0)
  p0 : Q ≠ 0 → pv = .slice none 0 0
  p1 : Q = 0 → ∃ pb pc cb n, pv = .slice (some ⟨pb, 0, none⟩) 1 pc ∧ w.cell? ⟨pb, 0, none⟩ = some (.slice (some ⟨cb, 0, none⟩) n n) ∧ n = (Lib.decDigits fl).length ∧ ∀ j (hj : j < (Lib.decDigits fl).length), w.cell? ⟨cb, j, none⟩ = some (.int .u8 ((Lib.decDigits fl)[j].toNat : Int))
  bel : Below w0.heap.size w0 w

theorem Fin.keep {w0 : World} {fl sl al rl : Nat} {Ff Sf Af Rf : Nat → Int} {Q r af at_ : Int} {gr : Nat} {nb sb gb : Nat} {pv : Value} {xb xc yb yc fg fc : Nat} {sa : Option Addr} {sg sc rb ab : Nat} {w w' : World}
    (h : Fin w0 fl sl al rl Ff Sf Af Rf Q r af at_ gr nb sb gb pv xb xc yb yc fg fc sa sg sc rb ab w) (hw : Below w.heap.size w w') :
    Fin w0 fl sl al rl Ff Sf Af Rf Q r af at_ gr nb sb gb pv xb xc yb yc fg fc sa sg sc rb ab w' := by
  have k : ∀ {a v}, w.cell? a = some v → w'.cell? a = some v := fun {a v} ha => (hw.cell (World.block_lt_of_cell? w a ha)).trans ha
  refine ⟨k h.n1, k h.n2, k h.n3, k h.n4, k h.s1, k h.s2, h.sa', k h.g0, k h.g1, k h.g2, k h.x0, k h.y0, fun i hi => k (h.rc0 i hi), fun i hi => k (h.rc1 i hi), fun j hj => k (h.fr j hj), fun j hj => k (h.f1 j hj), k h.f2, fun j hj => k (h.v1 j hj), fun e => k (h.v2 e), h.p0, fun e => ?_, h.bel.trans ⟨hw.os, hw.tape, hw.output, hw.size, fun b hb => hw.block b (Nat.lt_of_lt_of_le hb h.bel.size)⟩⟩
  obtain ⟨pb, pc, cb, n, h1, h2, h3, h4⟩ := h.p1 e
  exact ⟨pb, pc, cb, n, h1, k h2, h3, fun j hj => k (h4 j hj)⟩

theorem fin_of {w0 : World} {fl sl al rl : Nat} {Ff Sf Af Rf : Nat → Int} {fb db ab rb : Nat} {w8 : World} (hL : Laid w0 fl sl al rl Ff Sf Af Rf fb db ab rb rl w8) {Q r af at_ : Int} (hQ : fl = 0 → Q = 0) {ok : Bool} {sb nb gb : Nat} {w10 w11 w12 : World}
    (h10 : Below w8.heap.size w8 w10) (hnb : w8.heap.size ≤ nb) (hsb : w8.heap.size ≤ sb)
    (hR : Rounded w0.heap.size sb nb fb db fl sl (cellsOf .i64 Ff fl) (cellsOf .i64 Sf sl) Q af at_ r (.slice (some ⟨ab, 0, none⟩) al al) (.slice (some ⟨rb, 0, none⟩) rl rl) ok w10 w11)
    (h12 : Below w11.heap.size w11 w12) (g0 : w12.cell? ⟨gb, 0, none⟩ = some (.int .i64 af)) (g1 : w12.cell? ⟨gb, 1, none⟩ = some (.int .i64 at_)) (g2 : w12.cell? ⟨gb, 2, none⟩ = some (.slice (some ⟨ab, 0, none⟩) al al)) (hfb : w0.heap.size ≤ fb) :
    ∃ gr pv xb xc yb yc fg fc sa sg sc, gr = (if Q = 0 then 1 else 0) ∧ Fin w0 fl sl al rl Ff Sf Af Rf Q r af at_ gr nb sb gb pv xb xc yb yc fg fc sa sg sc rb ab w12 := by
  obtain ⟨fv, sv, pv, xb, xc, yb, yc, rS, rN, oF, oS, cx, cy, p0, p1, hT⟩ := hR
  obtain ⟨gr, hgr⟩ : ∃ gr : Nat, gr = if Q = 0 then 1 else 0 := ⟨_, rfl⟩
  rw [← hgr] at oF oS
  have hgr1 : gr ≤ 1 := by rw [hgr]; split <;> omega
  have hpos : 0 < fl + gr := by
    rw [hgr]
    split
    · omega
    · rename_i h
      have : fl ≠ 0 := fun h' => h (hQ h')
      omega
  obtain ⟨fg, fc, rfl, _, _⟩ := own_pos oF hpos
  obtain ⟨sa, sg, sc, rfl, hsa⟩ : ∃ sa sg sc, sv = .slice sa (sl + gr) sc ∧ (0 < sl + gr → sa = some ⟨sg, 0, none⟩) := by
    rcases oS.2 with ⟨h1, h2⟩ | ⟨g, c, cur, h1, _⟩
    · exact ⟨none, 0, 0, by rw [h1, h2], fun h => by omega⟩
    · exact ⟨_, g, c, h1, fun _ => rfl⟩
  have k : ∀ {a v}, w11.cell? a = some v → w12.cell? a = some v := fun {a v} ha => (h12.cell (World.block_lt_of_cell? w11 a ha)).trans ha
  obtain ⟨q1, q2, q3⟩ := hL.ne
  obtain ⟨G, hG, hg⟩ := hL.rc
  have hrl := hG.lt
  have hab := hL.fr.lt ab rfl
  have hfl := hL.fs.lt fb rfl
  have hdl := hL.sd.lt db rfl
  have kb : ∀ b, b < w8.heap.size → b ≠ fb → b ≠ db → w11.heap[b]? = w8.heap[b]? := fun b hb h1 h2 => (hT.block b (Nat.lt_of_lt_of_le hb h10.size) (by rintro (h | h | h | h) <;> omega)).trans (h10.block b hb)
  have k8 : ∀ {b j v}, b < w8.heap.size → b ≠ fb → b ≠ db → w8.cell? ⟨b, j, none⟩ = some v → w12.cell? ⟨b, j, none⟩ = some v := fun {b j v} hb h1 h2 hv => k ((World.cell?_of_block (a := ⟨b, j, none⟩) (kb b hb h1 h2)).trans hv)
  have n1 := rN.cell (show 1 < 9 by omega)
  have n2 := rN.cell (show 2 < 9 by omega)
  have n3 := rN.cell (show 3 < 9 by omega)
  have n4 := rN.cell (show 4 < 9 by omega)
  have s1 := rS.cell (show 1 < 3 by omega)
  have s2 := rS.cell (show 2 < 3 by omega)
  simp [nodeRow] at n1 n2 n3 n4
  simp [supRow] at s1 s2
  have hFl : (cellsOf .i64 Ff fl ++ List.replicate gr (Value.int .i64 0)).length = fl + gr := by simp [cellsOf_length]
  refine ⟨gr, pv, xb, xc, yb, yc, fg, fc, sa, sg, sc, hgr, k n1, k n2, k n3, k n4, k s1, k s2, hsa, g0, g1, g2, k cx, k cy, fun i hi => ?_, fun i hi => ?_, fun j hj => ?_, fun j hj => k ?_, k ?_, fun j hj => k ?_, fun e => k ?_, p0, fun e => ?_, ?_⟩
  · exact k8 hrl (by omega) (by omega) ((hG.cell (by omega)).trans (by rw [(hg i hi).1]))
  · exact k8 hrl (by omega) (by omega) ((hG.cell (by omega)).trans (by rw [(hg i hi).2]))
  · refine k8 hab.2 (by omega) (by omega) ?_
    rw [hL.fr.cellAt j (by omega), cellsOf_at _ _ _ hj]
  · rw [oF.cellAt j (by omega), List.getElem?_set_ne (by omega), List.getElem?_append_left (by rw [cellsOf_length]; omega), cellsOf_at _ _ _ (by omega)]
  · rw [oF.cellAt (fl + gr - 1) (by omega), List.getElem?_set_self (by omega)]
  · have hp : 0 < sl + gr := by omega
    rw [hsa hp] at oS
    rw [oS.cellAt j (by omega), List.getElem?_append_left (by rw [cellsOf_length]; omega), cellsOf_at _ _ _ hj]
  · have hp : 0 < sl + gr := by omega
    rw [hsa hp, e] at oS
    rw [oS.cellAt sl (by omega), List.getElem?_append_right (by rw [cellsOf_length]; omega), cellsOf_length]
    simp
  · obtain ⟨pb, pc, cb, n, h1, h2, h3⟩ := p1 e
    have hit : Lib.itoa (fl : Int) = Lib.decDigits fl := by simp [Lib.itoa]
    rw [hit] at h3
    have hn : n = (Lib.decDigits fl).length := by
      have := h3.1
      simp [Lib.byteCells] at this
      omega
    refine ⟨pb, pc, cb, n, h1, k h2, hn, fun j hj => k ?_⟩
    rw [h3.cellAt j (by omega)]
    simp [Lib.byteCells, hj]
  · have hz8 := hL.bel.size
    have hz10 := h10.size
    have hz11 := hT.size
    refine (hL.bel.trans ⟨h10.os, h10.tape, h10.output, h10.size, fun b hb => h10.block b (by omega)⟩).trans ((hT.below (B := w0.heap.size) (by omega) (fun i hi => ?_)).trans ⟨h12.os, h12.tape, h12.output, h12.size, fun b hb => h12.block b (by omega)⟩)
    rcases hi with h | h | h | h <;> omega

end Go.Proofs.YbulkcruiDoor
