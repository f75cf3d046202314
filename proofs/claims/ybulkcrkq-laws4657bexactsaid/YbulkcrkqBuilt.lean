/- What the laws stand on behind build. -/
import Derived.Test.YbulkcrkqCount
namespace Go.Proofs.Ybulkcrkq
open Go.ChangeShapes Go.WideShapes Go.ChangeAt Go.RowKit
set_option maxHeartbeats 8000000
set_option maxRecDepth 20000
set_option linter.unusedVariables false

/-- A yield that leaves what lay below B as it was. -/
theorem YieldOk.framed {F : Nat} {caps : Array Value} {Y M : Nat → Prop} {go : List Nat → Bool} {Q : Nat → Prop} {J : List Nat → World → Prop} (h : YieldOk F caps Y M go Q J) (w0 : World) (hY : ∀ b, Y b → w0.heap.size ≤ b) :
    YieldOk F caps Y (fun b => M b ∨ b < w0.heap.size) go Q (fun l w => J l w ∧ Turned w0 w (fun _ => False)) := by
  refine ⟨fun l c w hJ hQ hc => (h.call l c w hJ.1 hQ hc).mono (fun e w' hx => ⟨hx.1, ⟨hx.2.1, hJ.2.trans (hx.2.2.mono (fun b _ hb => .inr (hY b hb)))⟩, hx.2.2⟩), fun l w w' T hJ hT hM => ⟨h.keep l w w' T hJ.1 hT (fun b hb => hM b (.inl hb)), ?_⟩⟩
  refine hJ.2.trans (hT.mono (fun b _ hb => .inr ?_))
  by_cases e : b < w0.heap.size
  · exact absurd hb (hM b (.inr e))
  · omega

theorem own_form {w : World} {base : Nat} {e : TypeId} {v : Value} {n : Nat} {xs : List Value} (h : w.ownsRow base e 1 v n xs) (hn : 0 < n) : ∃ g cap, v = .slice (some ⟨g, 0, none⟩) n cap ∧ base ≤ g ∧ g < w.heap.size ∧ (∀ j, j < n → w.cell? ⟨g, j, none⟩ = xs[j]?) ∧ ∃ C, w.heap[g]? = some (.cells C e (0, 0)) := by
  rcases id h.2 with ⟨_, h0⟩ | ⟨g, cap, cur, rfl, hb, hg, _⟩
  · omega
  · exact ⟨g, cap, rfl, hb, (Array.getElem?_eq_some_iff.1 hg).1, fun j hj => h.cellAt j (by omega), cur, hg⟩

/-- What the laws know behind build: w0 the law's first world, w1 build's, w2 behind it, w the world at hand. -/
structure Built (w0 w1 w2 w : World) (I M : Nat → Int) (W : Nat → Bool) (s n hb hc mb mc : Nat) (cl : List Nat) : Prop where
  hB : Building w1 I M W s n cl (.slice (some ⟨hb, 0, none⟩) n hc) (.slice (some ⟨mb, 0, none⟩) n mc) w2
  t01 : Turned w0 w1 (fun _ => False)
  t2 : Turned w2 w (fun _ => False)

theorem Built.turned {w0 w1 w2 w w' : World} {I M : Nat → Int} {W : Nat → Bool} {s n hb hc mb mc : Nat} {cl : List Nat} (h : Built w0 w1 w2 w I M W s n hb hc mb mc cl) (hT : Turned w w' (fun _ => False)) : Built w0 w1 w2 w' I M W s n hb hc mb mc cl :=
  ⟨h.hB, h.t01, h.t2.trans (hT.mono (fun _ _ h => h.elim))⟩

theorem Built.all {w0 w1 w2 w : World} {I M : Nat → Int} {W : Nat → Bool} {s n hb hc mb mc : Nat} {cl : List Nat} (h : Built w0 w1 w2 w I M W s n hb hc mb mc cl) : Turned w0 w (fun _ => False) :=
  (h.t01.trans (h.hB.turn.mono (fun _ _ h => h.elim))).trans (h.t2.mono (fun _ _ h => h.elim))

theorem Built.env {w0 w1 w2 w : World} {I M : Nat → Int} {W : Nat → Bool} {s n hb hc mb mc : Nat} {cl : List Nat} (h : Built w0 w1 w2 w I M W s n hb hc mb mc cl) (hn : 0 < n) {H Sp Ms St Id Od : Nat} {sa : Option Addr} {sc : Nat} {set q : Int} {older : Bool}
    (a1 : w.cell? ⟨H, 0, none⟩ = some (.slice (some ⟨hb, 0, none⟩) n hc)) (a2 : w.cell? ⟨Sp, 0, none⟩ = some (.slice sa n sc)) (a3 : w.cell? ⟨Ms, 0, none⟩ = some (.slice (some ⟨mb, 0, none⟩) n mc)) (a4 : w.cell? ⟨St, 0, none⟩ = some (.int .u8 set)) (a5 : w.cell? ⟨Id, 0, none⟩ = some (.int .u64 q)) (a6 : w.cell? ⟨Od, 0, none⟩ = some (.bool older)) (hs : SpecAt w0 sa n I M W) :
    LawEnv w H Sp Ms St Id Od sa n sc hb hc mb mc I M W cl set q older := by
  have hB2 := h.hB
  have hh := hB2.hs.turned h.t2 (fun _ _ h => h)
  have hm := hB2.ms.turned h.t2 (fun _ _ h => h)
  refine ⟨a1, a2, a3, a4, a5, a6, specAt_turned hs h.all (fun _ _ _ h => h), fun j hj => ?_, fun j hj => ?_, fun j hj => (hB2.core j hj).turned h.t2 (fun h => h)⟩
  · rw [hh.cellAt j (by omega), getD_ptr _ _ (by rw [hB2.len]; exact hj)]
  · rw [hm.cellAt j (by omega), List.getElem?_map]
    simp [hj]

/-- The look's start, the first time. -/
theorem Built.pre {w0 w1 w2 w : World} {I M : Nat → Int} {W : Nat → Bool} {s n hb hc mb mc : Nat} {cl : List Nat} (h : Built w0 w1 w2 w I M W s n hb hc mb mc cl) (hn : 0 < n) (hn3 : n ≤ 300) {Y Mb : Nat → Prop} {S1 S2 S3 S4 : Nat} {set q : Int} {older : Bool}
    (c1 : w.cell? ⟨S1, 0, none⟩ = some (.pointer (some ⟨s, 0, none⟩))) (c2 : w.cell? ⟨S2, 0, none⟩ = some (.bool older)) (c3 : w.cell? ⟨S3, 0, none⟩ = some (.int .u64 q)) (c4 : w.cell? ⟨S4, 0, none⟩ = some (.int .u8 set)) (hs : 0 ≤ set ∧ set ≤ 255) (hq : 0 ≤ q ∧ q ≤ 100)
    (hS : ∀ b, b ∈ [S1, S2, S3, S4] → w2.heap.size ≤ b ∧ ¬ Y b) (hY : ∀ b, Y b → w2.heap.size ≤ b ∧ b < w.heap.size) (hMb : ∀ b, Mb b → b < w.heap.size ∧ (b < w1.heap.size ∨ b = hb ∨ b = mb ∨ b ∈ cl ∨ w2.heap.size ≤ b)) :
    ∃ c0 kc oth m cnt v, cl = c0 :: kc ∧ SeqPre w Y Mb S1 S2 S3 S4 s c0 (mdOf M cl c0) oth m cnt none kc v (mdOf M cl) (wdOf W cl) (idOf I cl) set q older ∧ HSet w s (key c0) (M 0 % 5 + 1) oth m cnt none (kc.map key) v ∧ (∀ j, 1 ≤ j → j < n → (v (key (cl.getD j 0))).1 = M j % 5 + 1) ∧
      (∀ o, oth = some o → (w1.heap.size ≤ o ∧ o < w2.heap.size ∧ o ≠ hb ∧ o ≠ mb ∧ o ∉ cl) ∧ (w1.heap.size ≤ m ∧ m < w2.heap.size ∧ m ≠ hb ∧ m ≠ mb ∧ m ∉ cl)) := by
  have hB := h.hB
  obtain ⟨oth, m, cnt, v, hset, hv1, hv2, hv3⟩ := hB.set
  obtain ⟨c0, kc, rfl⟩ : ∃ c0 kc, cl = c0 :: kc := by
    cases cl with
    | nil => have := hB.len; simp at this; omega
    | cons a b => exact ⟨a, b, rfl⟩
  have hl := hB.len
  rw [if_neg (by omega)] at hset
  have hset2 := hset_keep hset h.t2 (fun h => h) (fun _ _ h => h) (fun _ _ => ⟨fun h => h, fun h => h⟩)
  have hcore : ∀ c, c ∈ c0 :: kc → OkKey w2 (key c) := by
    intro c hc
    obtain ⟨j, hj, rfl⟩ := mem_getD hc
    exact (hB.core j (by omega)).1
  have hom : ∀ o, oth = some o → (w1.heap.size ≤ o ∧ o < w2.heap.size ∧ o ≠ hb ∧ o ≠ mb ∧ o ∉ c0 :: kc) ∧ (w1.heap.size ≤ m ∧ m < w2.heap.size ∧ m ≠ hb ∧ m ≠ mb ∧ m ∉ c0 :: kc) := by
    intro o ho
    obtain ⟨hO, hM, _⟩ := hset.some o ho
    refine ⟨⟨(hv3 o ho).1, hO.lt, fun e => own_ne_row hB.hs hO (by decide) (by rw [e]; rfl), fun e => own_ne_row hB.ms hO (by decide) (by rw [e]; rfl), fun hc => core_ne_row (hcore o hc) hO (by decide) rfl⟩,
      (hv3 o ho).2, hM.lt, fun e => own_ne_map hB.hs hM (by rw [e]; rfl), fun e => own_ne_map hB.ms hM (by rw [e]; rfl), fun hc => core_ne_map (hcore m hc) hM rfl⟩
  refine ⟨c0, kc, oth, m, cnt, v, rfl, ?_, hset2, hv1, hom⟩
  refine seqPre_of c1 c2 c3 c4 hset2 (fun j hj => (hB.core j (by omega)).turned h.t2 (fun h => h)) hB.nd (by simp at hl; omega) (fun j h1 h2 => hv1 j h1 (by omega)) hs hq (.inl rfl) (fun b hb => (hY b hb).2) (fun b hb => (hMb b hb).1) (fun b hb => (hS b hb).2) ?_ ?_ ?_
  · intro hy
    have := (hY s hy).1
    have := hset.row.lt
    omega
  · intro c hc hy
    have := (hY c hy).1
    have := (hcore c hc).lt
    omega
  · intro o ho
    obtain ⟨⟨o1, o2, o3, o4, o5⟩, m1, m2, m3, m4, m5⟩ := hom o ho
    refine ⟨fun hy => by have := (hY o hy).1; omega, fun hy => by have := (hY m hy).1; omega, fun hy => ?_, fun hy => ?_, fun b hb => ?_⟩
    · rcases (hMb o hy).2 with e | e | e | e | e
      · omega
      · exact o3 e
      · exact o4 e
      · exact o5 e
      · omega
    · rcases (hMb m hy).2 with e | e | e | e | e
      · omega
      · exact m3 e
      · exact m4 e
      · exact m5 e
      · omega
    · have := (hS b hb).1
      omega
end Go.Proofs.Ybulkcrkq
