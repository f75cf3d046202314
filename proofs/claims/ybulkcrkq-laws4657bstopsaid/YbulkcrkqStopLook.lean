/- LawS4657BStop. -/
import Derived.Test.YbulkcrkqBuilt
import Derived.Test.YbulkcrkqSeqS
namespace Go.Proofs.Ybulkcrkq
open Go.ChangeShapes Go.WideShapes Go.ChangeAt Go.RowKit
set_option maxHeartbeats 8000000
set_option maxRecDepth 20000
set_option linter.unusedVariables false

theorem stop_long (sa : Option Addr) (n sc : Nat) (set q kk : Int) (older : Bool) (hn : 300 < n) (w : World) :
    Calls Yba.prog 6 #[.slice sa n sc, .int .u8 set, .int .u8 q, .bool older, .int .u8 kk] w fun e w' => e = .returned (.bool true) ∧ Turned w w' (fun _ => False) := by
  go_enter Yba.func6, Yba.ntmps6
  go_wp2_with fail
  go_ret
  exact ⟨rfl, ((Turned.refl _ _).alloc _).alloc _⟩

theorem cell_new (w : World) (v : Value) (t : TypeId) : (w.alloc (.cells #[v] t)).cell? ⟨w.heap.size, 0, none⟩ = some v := by simp

theorem four_new (w : World) (a b c d : Value) (t1 t2 t3 t4 : TypeId) :
    ((((w.alloc (.cells #[a] t1)).alloc (.cells #[b] t2)).alloc (.cells #[c] t3)).alloc (.cells #[d] t4)).cell? ⟨w.heap.size, 0, none⟩ = some a ∧ ((((w.alloc (.cells #[a] t1)).alloc (.cells #[b] t2)).alloc (.cells #[c] t3)).alloc (.cells #[d] t4)).cell? ⟨w.heap.size + 1, 0, none⟩ = some b ∧
    ((((w.alloc (.cells #[a] t1)).alloc (.cells #[b] t2)).alloc (.cells #[c] t3)).alloc (.cells #[d] t4)).cell? ⟨w.heap.size + 2, 0, none⟩ = some c ∧ ((((w.alloc (.cells #[a] t1)).alloc (.cells #[b] t2)).alloc (.cells #[c] t3)).alloc (.cells #[d] t4)).cell? ⟨w.heap.size + 3, 0, none⟩ = some d := by
  have n1 := cell_new w a t1
  have n2 := cell_new (w.alloc (.cells #[a] t1)) b t2
  have n3 := cell_new ((w.alloc (.cells #[a] t1)).alloc (.cells #[b] t2)) c t3
  have n4 := cell_new (((w.alloc (.cells #[a] t1)).alloc (.cells #[b] t2)).alloc (.cells #[c] t3)) d t4
  simp only [World.size_alloc] at n2 n3 n4
  refine ⟨?_, ?_, ?_, n4⟩
  · exact ((((Turned.refl _ (fun _ => False)).alloc _).alloc _).alloc _).cell n1 (fun h => h)
  · exact (((Turned.refl _ (fun _ => False)).alloc _).alloc _).cell n2 (fun h => h)
  · exact ((Turned.refl _ (fun _ => False)).alloc _).cell n3 (fun h => h)

theorem stop_look {w0 w1 w2 w4 : World} {I M : Nat → Int} {W : Nat → Bool} {s n hb hc mb mc : Nat} {cl : List Nat} (hBt : Built w0 w1 w2 w4 I M W s n hb hc mb mc cl) (hI : ∀ j, 0 ≤ I j ∧ I j ≤ 255) (hM : ∀ j, 0 ≤ M j ∧ M j ≤ 255) (hn : 0 < n) (hn3 : n ≤ 300) {H Sp Ms St Id Od Ok Ca K : Nat} {sa : Option Addr} {sc : Nat} {set q : Int} {older : Bool} {k : Nat} (hs : 0 ≤ set ∧ set ≤ 255) (hq : 0 ≤ q ∧ q < 100) (hk : 1 ≤ k ∧ k ≤ 100)
    (hE : LawEnv w4 H Sp Ms St Id Od sa n sc hb hc mb mc I M W cl set q older) (hok : w4.cell? ⟨Ok, 0, none⟩ = some (.bool true)) (hca : RowAt w4 Ca 3 1 (fun _ => .int .i64 0)) (hkk : w4.cell? ⟨K, 0, none⟩ = some (.int .i64 (k : Nat)))
    (d1 : ∀ b, b ∈ [H, Ms, St, Id, Ok, Ca, K] → w2.heap.size ≤ b) (d2 : ∀ b, b ∈ [Sp, Od] → b < w1.heap.size) (d3 : Ca ∉ [H, Ms, St, Id, Ok, K]) (hb2 : w1.heap.size ≤ hb ∧ hb < w2.heap.size) (mb2 : w1.heap.size ≤ mb ∧ mb < w2.heap.size) (hsp : ∀ b off, sa = some ⟨b, off, none⟩ → b < w0.heap.size) :
    Calls Yba.prog 14 #[.pointer (some ⟨s, 0, none⟩), .int .u8 set, .int .u64 q, .bool older] w4 fun e w5 => ∃ S1 S2 S3 S4, e = .returned (.func (.func 22) #[] #[.pointer (some ⟨S1, 0, none⟩), .pointer (some ⟨S2, 0, none⟩), .pointer (some ⟨S3, 0, none⟩), .pointer (some ⟨S4, 0, none⟩)]) ∧
      Calls Yba.prog 22 #[.func (.func 17) #[] #[.pointer (some ⟨H, 0, none⟩), .pointer (some ⟨Sp, 0, none⟩), .pointer (some ⟨Ms, 0, none⟩), .pointer (some ⟨St, 0, none⟩), .pointer (some ⟨Id, 0, none⟩), .pointer (some ⟨Od, 0, none⟩), .pointer (some ⟨Ok, 0, none⟩), .pointer (some ⟨Ca, 0, none⟩), .pointer (some ⟨K, 0, none⟩)], .pointer (some ⟨S1, 0, none⟩), .pointer (some ⟨S2, 0, none⟩), .pointer (some ⟨S3, 0, none⟩), .pointer (some ⟨S4, 0, none⟩)] w5
        fun e w6 => e = .returned (.tuple #[]) ∧ w6.cell? ⟨Ok, 0, none⟩ = some (.bool true) ∧ w6.cell? ⟨Ca, 0, none⟩ = some (.int .i64 ((min k (cq (qual I M W set q older) n) : Nat) : Int)) ∧ w6.cell? ⟨K, 0, none⟩ = some (.int .i64 (k : Nat)) ∧ Turned w0 w6 (fun _ => False) := by
  refine (ofAge14 s set q older w4).mono ?_
  rintro e w5 ⟨rfl, hw5⟩
  refine ⟨_, _, _, _, rfl, ?_⟩
  have T5 : Turned w4 w5 (fun _ => False) := by
    rw [← hw5]
    exact ((((Turned.refl _ _).alloc _).alloc _).alloc _).alloc _
  have hsz : w5.heap.size = w4.heap.size + 4 := by rw [← hw5]; simp
  have hB5 := hBt.turned T5
  have hnd := hBt.hB.nd
  have hl := hBt.hB.len
  have l1 := hBt.t01.size
  have l2 := hBt.hB.turn.size
  have l3 := hBt.t2.size
  have hE5 := hE.turned hl T5 (fun _ _ h => h)
  have hcl2 : ∀ c, c ∈ cl → w1.heap.size ≤ c ∧ c < w2.heap.size := by
    intro c hc
    refine ⟨hBt.hB.new c hc, ?_⟩
    obtain ⟨j, hj, rfl⟩ := mem_getD hc
    exact (hBt.hB.core j (by omega)).1.lt
  have hCaL : w2.heap.size ≤ Ca := d1 Ca (by simp)
  have hCaE : ¬ EnvB H Sp Ms St Id Od hb mb cl sa Ca := by
    rintro (h | h | ⟨off, h⟩)
    · simp at h d3 d2
      rcases h with h | h | h | h | h | h | h | h
      · exact d3.1 h
      · omega
      · exact d3.2.1 h
      · exact d3.2.2.1 h
      · exact d3.2.2.2.1 h
      · omega
      · omega
      · omega
    · have := hcl2 Ca h
      omega
    · have := hsp Ca off h
      omega
  simp at d3
  have hY := (yieldStop (Sp := Sp) (sa := sa) (sc := sc) (hc := hc) (mc := mc) (W := W) (older := older) hI hM hn3 hl hnd hs hq hk.2 hCaE d3.2.2.2.2.1 d3.2.2.2.2.2).framed w0 (fun b hb => by omega)
  have hJ : StopJ H Sp Ms St Id Od Ok Ca K sa n sc hb hc mb mc I M W cl set q older k [] w5 ∧ Turned w0 w5 (fun _ => False) := ⟨⟨hE5, T5.cell hok (fun h => h), T5.row hca (fun h => h), T5.cell hkk (fun h => h), List.nodup_nil, by simp⟩, hB5.all⟩
  have hlt : ∀ b, b ∈ [H, Sp, Ms, St, Id, Od, Ok, Ca, K] → b < w4.heap.size := by
    intro b hb
    have a1 := World.block_lt_of_cell? w4 _ hE.h
    have a2 := World.block_lt_of_cell? w4 _ hE.sp
    have a3 := World.block_lt_of_cell? w4 _ hE.ms
    have a4 := World.block_lt_of_cell? w4 _ hE.st
    have a5 := World.block_lt_of_cell? w4 _ hE.id
    have a6 := World.block_lt_of_cell? w4 _ hE.od
    have a7 := World.block_lt_of_cell? w4 _ hok
    have a8 := hca.lt
    have a9 := World.block_lt_of_cell? w4 _ hkk
    simp only at a1 a2 a3 a4 a5 a6 a7 a9
    simp at hb
    rcases hb with rfl | rfl | rfl | rfl | rfl | rfl | rfl | rfl | rfl <;> assumption
  obtain ⟨cS1, cS2, cS3, cS4⟩ := four_new w4 (.pointer (some ⟨s, 0, none⟩)) (.int .u8 set) (.int .u64 q) (.bool older) 27 41 42 4
  rw [hw5] at cS1 cS2 cS3 cS4
  obtain ⟨c0, kc, oth, m, cnt, v, hcl, hpre, _, _, _⟩ := hB5.pre hn hn3 (Y := fun b => b = Ca) (Mb := fun b => (EnvB H Sp Ms St Id Od hb mb cl sa b ∨ b = Ok ∨ b = Ca ∨ b = K) ∨ b < w0.heap.size) (S1 := w4.heap.size) (S2 := w4.heap.size + 3) (S3 := w4.heap.size + 2) (S4 := w4.heap.size + 1) (set := set) (q := q) (older := older)
    cS1 cS4 cS3 cS2 hs (by omega)
    (fun b hb => by
      have := hlt Ca (by simp)
      simp at hb
      omega)
    (fun b hb => by
      have := hlt Ca (by simp)
      omega)
    (fun b hb => by
      rcases hb with (h | h | h | h) | h
      · rcases h with h | h | ⟨off, h⟩
        · have hmem : b ∈ [H, Sp, Ms, St, Id, Od, Ok, Ca, K] ∨ b = hb ∨ b = mb := by
            simp at h ⊢
            omega
          rcases hmem with h' | h' | h'
          · refine ⟨by have := hlt b h'; omega, ?_⟩
            by_cases hb1 : b ∈ [Sp, Od]
            · exact .inl (d2 b hb1)
            · refine .inr (.inr (.inr (.inr (d1 b ?_))))
              simp at h' hb1 ⊢
              omega
          · exact ⟨by omega, .inr (.inl h')⟩
          · exact ⟨by omega, .inr (.inr (.inl h'))⟩
        · exact ⟨by have := hcl2 b h; omega, .inr (.inr (.inr (.inl h)))⟩
        · have := hsp b off h
          exact ⟨by omega, .inl (by omega)⟩
      · exact ⟨by have := hlt Ok (by simp); omega, .inr (.inr (.inr (.inr (by have := d1 Ok (by simp); omega))))⟩
      · exact ⟨by have := hlt Ca (by simp); omega, .inr (.inr (.inr (.inr (by omega))))⟩
      · exact ⟨by have := hlt K (by simp); omega, .inr (.inr (.inr (.inr (by have := d1 K (by simp); omega))))⟩
      · exact ⟨by omega, .inl (by omega)⟩)
  rw [hcl] at hY hpre
  have hJ' := hJ
  rw [hcl] at hJ'
  have hseq := seqS_any rfl hY w5 hpre hJ'
  refine hseq.mono ?_
  rintro e w6 ⟨rfl, ⟨D, hD1, hD2, ⟨⟨hE6, hok6, hca6, hkk6, _⟩, hT6⟩⟩, _⟩
  refine ⟨rfl, hok6, ?_, hkk6, hT6⟩
  rw [hca6.cell (by omega), visit_len k D [] (by simp; omega)]
  rw [← hcl] at hD2
  rw [← wanted_len hnd hl hD1 hD2]
  simp
end Go.Proofs.Ybulkcrkq
