/- BExact: one pass. -/
import Derived.Test.YbulkcrkqYieldX
namespace Go.Proofs.Ybulkcrkq
open Go.ChangeShapes Go.WideShapes Go.ChangeAt Go.RowKit
set_option maxHeartbeats 8000000
set_option maxRecDepth 20000
set_option linter.unusedVariables false

theorem cell_fresh (w : World) (v : Value) (t : TypeId) : (w.alloc (.cells #[v] t)).cell? ⟨w.heap.size, 0, none⟩ = some v := by simp

theorem four_fresh (w : World) (a b c d : Value) (t1 t2 t3 t4 : TypeId) :
    ((((w.alloc (.cells #[a] t1)).alloc (.cells #[b] t2)).alloc (.cells #[c] t3)).alloc (.cells #[d] t4)).cell? ⟨w.heap.size, 0, none⟩ = some a ∧ ((((w.alloc (.cells #[a] t1)).alloc (.cells #[b] t2)).alloc (.cells #[c] t3)).alloc (.cells #[d] t4)).cell? ⟨w.heap.size + 1, 0, none⟩ = some b ∧
    ((((w.alloc (.cells #[a] t1)).alloc (.cells #[b] t2)).alloc (.cells #[c] t3)).alloc (.cells #[d] t4)).cell? ⟨w.heap.size + 2, 0, none⟩ = some c ∧ ((((w.alloc (.cells #[a] t1)).alloc (.cells #[b] t2)).alloc (.cells #[c] t3)).alloc (.cells #[d] t4)).cell? ⟨w.heap.size + 3, 0, none⟩ = some d := by
  have n1 := cell_fresh w a t1
  have n2 := cell_fresh (w.alloc (.cells #[a] t1)) b t2
  have n3 := cell_fresh ((w.alloc (.cells #[a] t1)).alloc (.cells #[b] t2)) c t3
  have n4 := cell_fresh (((w.alloc (.cells #[a] t1)).alloc (.cells #[b] t2)).alloc (.cells #[c] t3)) d t4
  simp only [World.size_alloc] at n2 n3 n4
  refine ⟨?_, ?_, ?_, n4⟩
  · exact ((((Turned.refl _ (fun _ => False)).alloc _).alloc _).alloc _).cell n1 (fun h => h)
  · exact (((Turned.refl _ (fun _ => False)).alloc _).alloc _).cell n2 (fun h => h)
  · exact ((Turned.refl _ (fun _ => False)).alloc _).cell n3 (fun h => h)

/-- The blocks that are the law's own from build on, and all that was there before the call. -/
def LawB (w0 : World) (H Sp Ms St Id Od hb mb : Nat) (cl : List Nat) (sa : Option Addr) (b : Nat) : Prop := EnvB H Sp Ms St Id Od hb mb cl sa b ∨ b < w0.heap.size

/-- The lists by age between two passes. -/
def AgeInv (w : World) (Mb : Nat → Prop) (c0 : Nat) (kc : List Nat) (md : Nat → Nat) (wdf idf : Nat → Int) (age : Option Addr) : Prop :=
  age = none ∨ ∃ L dn, age = some ⟨L, 0, none⟩ ∧ dn.Nodup ∧ (∀ c, c ∈ dn ↔ c ∈ kc) ∧ Lists w L (fun _ => False) (lsOf md dn) wdf idf ∧ ¬ Mb L ∧ L ∉ c0 :: kc

theorem AgeInv.of {w : World} {Y M Mb : Nat → Prop} {X : List Nat} {c0 : Nat} {kc : List Nat} {md : Nat → Nat} {wdf idf : Nat → Int} {age : Option Addr} (h : AgeOk w Y M X c0 kc md wdf idf age) (hM : ∀ b, Mb b → M b) : AgeInv w Mb c0 kc md wdf idf age := by
  rcases h with h | ⟨L, dn, e, h1, h2, h3, h4, h5, h6, h7⟩
  · exact .inl h
  · exact .inr ⟨L, dn, e, h1, h2, h3.other (fun _ h => h.elim), fun h => h5 (hM L h), h7⟩

theorem AgeInv.to {w w' : World} {Y M Mb : Nat → Prop} {X : List Nat} {c0 : Nat} {kc : List Nat} {md : Nat → Nat} {wdf idf : Nat → Int} {age : Option Addr} (h : AgeInv w Mb c0 kc md wdf idf age) (hT : Turned w w' (fun _ => False)) (hY : ∀ b, Y b → w.heap.size ≤ b) (hM : ∀ b, M b → Mb b ∨ w.heap.size ≤ b) (hX : ∀ b, b ∈ X → w.heap.size ≤ b) : AgeOk w' Y M X c0 kc md wdf idf age := by
  rcases h with h | ⟨L, dn, e, h1, h2, h3, h4, h5⟩
  · exact .inl h
  · have hlt : L < w.heap.size := by obtain ⟨g, hg, _⟩ := h3; exact hg.lt
    have h3' := h3.other (Y' := Y) hY
    refine .inr ⟨L, dn, e, h1, h2, h3'.turned hT (fun _ _ h => h.elim) (fun h => by have := hY L h; omega), fun h => by have := hY L h; omega, fun h => ?_, fun h => by have := hX L h; omega, h5⟩
    rcases hM L h with h | h
    · exact h4 h
    · omega

/-- Between two passes. -/
structure PassInv (w0 w1 w2 : World) (H Sp Ms St Id Od : Nat) (sa : Option Addr) (n sc hb hc mb mc : Nat) (I M : Nat → Int) (W : Nat → Bool) (s c0 : Nat) (kc : List Nat) (oth : Option Nat) (m : Nat) (cnt : Nat → Int) (set q : Int) (older : Bool) (w : World) : Prop where
  env : LawEnv w H Sp Ms St Id Od sa n sc hb hc mb mc I M W (c0 :: kc) set q older
  set : ∃ age v, HSet w s (key c0) (M 0 % 5 + 1) oth m cnt age (kc.map key) v ∧ (∀ j, 1 ≤ j → j < n → (v (key ((c0 :: kc).getD j 0))).1 = M j % 5 + 1) ∧ AgeInv w (LawB w0 H Sp Ms St Id Od hb mb (c0 :: kc) sa) c0 kc (mdOf M (c0 :: kc)) (wdOf W (c0 :: kc)) (idOf I (c0 :: kc)) age
  turn : Turned w0 w (fun _ => False)
  size : w2.heap.size ≤ w.heap.size

theorem exact_look {w0 w1 w2 w w4 : World} {H Sp Ms St Id Od : Nat} {sa : Option Addr} {n sc hb hc mb mc : Nat} {I M : Nat → Int} {W : Nat → Bool} {s c0 : Nat} {kc : List Nat} {oth : Option Nat} {m : Nat} {cnt : Nat → Int} {set q : Int} {older : Bool}
    (hP : PassInv w0 w1 w2 H Sp Ms St Id Od sa n sc hb hc mb mc I M W s c0 kc oth m cnt set q older w) (hI : ∀ j, 0 ≤ I j ∧ I j ≤ 255) (hM : ∀ j, 0 ≤ M j ∧ M j ≤ 255) (hn3 : n ≤ 300) (hs : 0 ≤ set ∧ set ≤ 255) (hq : 0 ≤ q ∧ q < 100)
    (hl : (c0 :: kc).length = n) (hnd : (c0 :: kc).Nodup) (hcl2 : ∀ c, c ∈ c0 :: kc → w1.heap.size ≤ c ∧ c < w2.heap.size) (hsl : s < w2.heap.size) (h01 : w0.heap.size ≤ w1.heap.size)
    (hom : ∀ o, oth = some o → (w1.heap.size ≤ o ∧ o < w2.heap.size ∧ o ≠ hb ∧ o ≠ mb ∧ o ∉ c0 :: kc) ∧ (w1.heap.size ≤ m ∧ m < w2.heap.size ∧ m ≠ hb ∧ m ≠ mb ∧ m ∉ c0 :: kc))
    {Ok Se sb Nn : Nat} (hT : Turned w w4 (fun _ => False)) (hsz : w4.heap.size = w.heap.size + 4) (esb : sb = w.heap.size) (eSe : Se = w.heap.size + 1) (eNn : Nn = w.heap.size + 2) (eOk : Ok = w.heap.size + 3)
    (hok : w4.cell? ⟨Ok, 0, none⟩ = some (.bool true)) (hse : w4.cell? ⟨Se, 0, none⟩ = some (.slice (some ⟨sb, 0, none⟩) n n)) (hsr : RowAt w4 sb 4 n (fun _ => .bool false)) (hnn : RowAt w4 Nn 3 1 (fun _ => .int .i64 0))
    (d1 : ∀ b, b ∈ [H, Ms, St, Id] → w2.heap.size ≤ b) (d2 : ∀ b, b ∈ [Sp, Od] → b < w1.heap.size) (hb2 : w1.heap.size ≤ hb ∧ hb < w2.heap.size) (mb2 : w1.heap.size ≤ mb ∧ mb < w2.heap.size) (hsp : ∀ b off, sa = some ⟨b, off, none⟩ → b < w0.heap.size) :
    Calls Yba.prog 14 #[.pointer (some ⟨s, 0, none⟩), .int .u8 set, .int .u64 q, .bool older] w4 fun e w5 => ∃ S1 S2 S3 S4, e = .returned (.func (.func 22) #[] #[.pointer (some ⟨S1, 0, none⟩), .pointer (some ⟨S2, 0, none⟩), .pointer (some ⟨S3, 0, none⟩), .pointer (some ⟨S4, 0, none⟩)]) ∧
      Calls Yba.prog 22 #[.func (.func 15) #[] #[.pointer (some ⟨H, 0, none⟩), .pointer (some ⟨Se, 0, none⟩), .pointer (some ⟨Sp, 0, none⟩), .pointer (some ⟨Ms, 0, none⟩), .pointer (some ⟨St, 0, none⟩), .pointer (some ⟨Id, 0, none⟩), .pointer (some ⟨Od, 0, none⟩), .pointer (some ⟨Ok, 0, none⟩), .pointer (some ⟨Nn, 0, none⟩)], .pointer (some ⟨S1, 0, none⟩), .pointer (some ⟨S2, 0, none⟩), .pointer (some ⟨S3, 0, none⟩), .pointer (some ⟨S4, 0, none⟩)] w5
        fun e w6 => e = .returned (.tuple #[]) ∧ w6.cell? ⟨Ok, 0, none⟩ = some (.bool true) ∧ w6.cell? ⟨Nn, 0, none⟩ = some (.int .i64 ((cq (qual I M W set q older) n : Nat) : Int)) ∧ PassInv w0 w1 w2 H Sp Ms St Id Od sa n sc hb hc mb mc I M W s c0 kc oth m cnt set q older w6 := by
  refine (ofAge14 s set q older w4).mono ?_
  rintro e w5 ⟨rfl, hw5⟩
  refine ⟨_, _, _, _, rfl, ?_⟩
  have T5 : Turned w4 w5 (fun _ => False) := by
    rw [← hw5]
    exact ((((Turned.refl _ _).alloc _).alloc _).alloc _).alloc _
  have hsz5 : w5.heap.size = w4.heap.size + 4 := by rw [← hw5]; simp
  have T05 : Turned w w5 (fun _ => False) := hT.trans (T5.mono (fun _ _ h => h.elim))
  have hE5 := hP.env.turned hl T05 (fun _ _ h => h)
  have hws := hP.size
  have hElt : ∀ b, b ∈ [H, Sp, Ms, St, Id, Od] → b < w.heap.size := by
    intro b hb
    have a1 := World.block_lt_of_cell? w _ hP.env.h
    have a2 := World.block_lt_of_cell? w _ hP.env.sp
    have a3 := World.block_lt_of_cell? w _ hP.env.ms
    have a4 := World.block_lt_of_cell? w _ hP.env.st
    have a5 := World.block_lt_of_cell? w _ hP.env.id
    have a6 := World.block_lt_of_cell? w _ hP.env.od
    simp only at a1 a2 a3 a4 a5 a6
    simp at hb
    rcases hb with rfl | rfl | rfl | rfl | rfl | rfl <;> assumption
  have hEnv : ∀ b, EnvB H Sp Ms St Id Od hb mb (c0 :: kc) sa b → b < w.heap.size ∧ (b < w1.heap.size ∨ b = hb ∨ b = mb ∨ b ∈ c0 :: kc ∨ w2.heap.size ≤ b) := by
    rintro b (h | h | ⟨off, h⟩)
    · have hmem : b ∈ [Sp, Od] ∨ b ∈ [H, Ms, St, Id] ∨ b = hb ∨ b = mb := by
        simp at h ⊢
        rcases h with h | h | h | h | h | h | h | h <;> simp [h]
      have hlt : b ∈ [H, Sp, Ms, St, Id, Od] ∨ b = hb ∨ b = mb := by
        simp at h ⊢
        rcases h with h | h | h | h | h | h | h | h <;> simp [h]
      have hb4 : b < w.heap.size := by
        rcases hlt with h | h | h
        · exact hElt b h
        · omega
        · omega
      refine ⟨hb4, ?_⟩
      rcases hmem with h | h | h | h
      · exact .inl (d2 b h)
      · exact .inr (.inr (.inr (.inr (d1 b h))))
      · exact .inr (.inl h)
      · exact .inr (.inr (.inl h))
    · exact ⟨by have := hcl2 b h; omega, .inr (.inr (.inr (.inl h)))⟩
    · have := hsp b off h
      exact ⟨by omega, .inl (by omega)⟩
  have hY := (yieldExact (Sp := Sp) (sa := sa) (sc := sc) (hc := hc) (mc := mc) (W := W) (older := older) (Ok := Ok) (Se := Se) (sb := sb) (Nn := Nn) hI hM hn3 hl hnd hs hq (fun h => by have := (hEnv _ h).1; omega) (fun h => by have := (hEnv _ h).1; omega) (by omega) (by omega) (by omega) (by omega) (by omega)).framed w0 (fun b hb => by have := hP.turn.size; omega)
  have hJ : ExactJ H Sp Ms St Id Od Ok Se sb Nn sa n sc hb hc mb mc I M W (c0 :: kc) set q older [] w5 ∧ Turned w0 w5 (fun _ => False) :=
    ⟨⟨hE5, T5.cell hok (fun h => h), T5.cell hse (fun h => h), (T5.row hsr (fun h => h)).congr (fun i _ => by simp [seenRow]), T5.row hnn (fun h => h), List.nodup_nil, by simp⟩, hP.turn.trans (T05.mono (fun _ _ h => h.elim))⟩
  obtain ⟨cS1, cS4, cS3, cS2⟩ := four_fresh w4 (.pointer (some ⟨s, 0, none⟩)) (.int .u8 set) (.int .u64 q) (.bool older) 27 41 42 4
  rw [hw5] at cS1 cS2 cS3 cS4
  obtain ⟨age, v, hset, hv1, hinv⟩ := hP.set
  have hset5 := hset_keep hset T05 (fun h => h) (fun _ _ h => h) (fun _ _ => ⟨fun h => h, fun h => h⟩)
  have hX : ∀ b, b ∈ [w4.heap.size, w4.heap.size + 3, w4.heap.size + 2, w4.heap.size + 1] → w4.heap.size ≤ b := by
    intro b hb
    simp at hb
    omega
  have hage := AgeInv.to (Y := fun b => b = sb ∨ b = Nn) (M := fun b => (EnvB H Sp Ms St Id Od hb mb (c0 :: kc) sa b ∨ b = Ok ∨ b = Se ∨ b = sb ∨ b = Nn) ∨ b < w0.heap.size) (X := [w4.heap.size, w4.heap.size + 3, w4.heap.size + 2, w4.heap.size + 1]) hinv T05 (fun b hb => by omega)
    (fun b hb => by
      rcases hb with (h | h | h | h | h) | h
      · exact .inl (.inl h)
      · exact .inr (by omega)
      · exact .inr (by omega)
      · exact .inr (by omega)
      · exact .inr (by omega)
      · exact .inl (.inr h)) (fun b hb => by have := hX b hb; omega)
  have hpre := seqPre_of (S1 := w4.heap.size) (S2 := w4.heap.size + 3) (S3 := w4.heap.size + 2) (S4 := w4.heap.size + 1) cS1 cS2 cS3 cS4 hset5 (fun j hj => (hE5.cell j (by omega))) hnd (by simp at hl; omega) (fun j h1 h2 => hv1 j h1 (by omega)) hs (by omega) hage
    (fun b hb => by omega)
    (fun b hb => by
      rcases hb with (h | h | h | h | h) | h
      · have := (hEnv b h).1
        omega
      · omega
      · omega
      · omega
      · omega
      · have := hP.turn.size
        omega)
    (fun b hb hy => by have := hX b hb; omega) (fun hy => by omega) (fun c hc hy => by have := hcl2 c hc; omega)
    (fun o ho => by
      obtain ⟨⟨o1, o2, o3, o4, o5⟩, m1, m2, m3, m4, m5⟩ := hom o ho
      refine ⟨by omega, by omega, fun hy => ?_, fun hy => ?_, fun b hb => by have := hX b hb; omega⟩
      · rcases hy with (h | h | h | h | h) | h
        · rcases (hEnv o h).2 with e | e | e | e | e
          · omega
          · exact o3 e
          · exact o4 e
          · exact o5 e
          · omega
        · omega
        · omega
        · omega
        · omega
        · omega
      · rcases hy with (h | h | h | h | h) | h
        · rcases (hEnv m h).2 with e | e | e | e | e
          · omega
          · exact m3 e
          · exact m4 e
          · exact m5 e
          · omega
        · omega
        · omega
        · omega
        · omega
        · omega)
  have hseq := seqX_any rfl hY w5 hpre hJ
  refine hseq.mono ?_
  rintro e w6 ⟨rfl, ⟨D, hD1, hD2, ⟨⟨hE6, hok6, _, _, hn6, _⟩, hT6⟩⟩, age', v', hset6, hsame, hage6⟩
  have e0 : ((mdOf M (c0 :: kc) c0 : Nat) : Int) = M 0 % 5 + 1 := md_cast (j := 0) hnd (by simp)
  rw [e0] at hset6
  refine ⟨rfl, hok6, ?_, hE6, ⟨age', v', hset6, fun j h1 h2 => (hsame _).trans (hv1 j h1 h2), AgeInv.of hage6 (fun b hb => hb.elim (fun h => .inl (.inl h)) .inr)⟩, hT6, ?_⟩
  · rw [hn6.cell (by omega), visit_all, List.nil_append, wanted_len hnd hl hD1 hD2]
  · have h1 := d1 H (by simp)
    have h2 := World.block_lt_of_cell? w6 _ hE6.h
    simp only at h2
    omega
end Go.Proofs.Ybulkcrkq
