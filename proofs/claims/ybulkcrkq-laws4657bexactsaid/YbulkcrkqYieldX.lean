/- BExact's yield. -/
import Derived.Test.YbulkcrkqBuilt
import Derived.Test.YbulkcrkqSeqX
namespace Go.Proofs.Ybulkcrkq
open Go.ChangeShapes Go.WideShapes Go.ChangeAt Go.RowKit
set_option maxHeartbeats 4000000
set_option maxRecDepth 20000
set_option linter.unusedVariables false

/-- Which of the holders have been seen. -/
def seenRow (cl l : List Nat) (j : Nat) : Value := .bool (decide (cl.getD j 0 ∈ l))

/-- The state while BExact's yield is called: l has been yielded. -/
def ExactJ (H Sp Ms St Id Od Ok Se sb Nn : Nat) (sa : Option Addr) (n sc hb hc mb mc : Nat) (I M : Nat → Int) (W : Nat → Bool) (cl : List Nat) (set q : Int) (older : Bool) (l : List Nat) (w : World) : Prop :=
  LawEnv w H Sp Ms St Id Od sa n sc hb hc mb mc I M W cl set q older ∧ w.cell? ⟨Ok, 0, none⟩ = some (.bool true) ∧ w.cell? ⟨Se, 0, none⟩ = some (.slice (some ⟨sb, 0, none⟩) n n) ∧ RowAt w sb 4 n (seenRow cl l) ∧ RowAt w Nn 3 1 (fun _ => .int .i64 (l.length : Nat)) ∧ l.Nodup ∧ ∀ x, x ∈ l → x ∈ cl

theorem seen_step {cl l : List Nat} (hn : cl.Nodup) {j n : Nat} (hl : cl.length = n) (hj : j < n) : ∀ i, i < n → upd (seenRow cl l) j (.bool true) i = seenRow cl (l ++ [cl.getD j 0]) i := by
  intro i hi
  by_cases e : i = j
  · subst e
    rw [upd_same]
    simp [seenRow]
  · rw [upd_other _ _ _ e]
    have hne : ¬ cl.getD i 0 = cl.getD j 0 := fun h => e (getD_inj hn (by omega) (by omega) h)
    have he : (cl.getD i 0 ∈ l ++ [cl.getD j 0]) ↔ cl.getD i 0 ∈ l := by
      rw [List.mem_append, List.mem_singleton]
      exact ⟨fun h => h.resolve_right hne, .inl⟩
    unfold seenRow
    congr 1
    exact (decide_eq_decide.2 he).symm

theorem yieldExact {H Sp Ms St Id Od Ok Se sb Nn : Nat} {sa : Option Addr} {n sc hb hc mb mc : Nat} {I M : Nat → Int} {W : Nat → Bool} {cl : List Nat} {set q : Int} {older : Bool} (hI : ∀ j, 0 ≤ I j ∧ I j ≤ 255) (hM : ∀ j, 0 ≤ M j ∧ M j ≤ 255) (hn : n ≤ 300) (hl : cl.length = n) (hnd : cl.Nodup) (hs : 0 ≤ set ∧ set ≤ 255) (hq : 0 ≤ q ∧ q < 100)
    (hE1 : ¬ EnvB H Sp Ms St Id Od hb mb cl sa sb) (hE2 : ¬ EnvB H Sp Ms St Id Od hb mb cl sa Nn) (x1 : Ok ≠ sb) (x2 : Ok ≠ Nn) (x3 : Se ≠ sb) (x4 : Se ≠ Nn) (x5 : sb ≠ Nn) :
    YieldOk 15 #[.pointer (some ⟨H, 0, none⟩), .pointer (some ⟨Se, 0, none⟩), .pointer (some ⟨Sp, 0, none⟩), .pointer (some ⟨Ms, 0, none⟩), .pointer (some ⟨St, 0, none⟩), .pointer (some ⟨Id, 0, none⟩), .pointer (some ⟨Od, 0, none⟩), .pointer (some ⟨Ok, 0, none⟩), .pointer (some ⟨Nn, 0, none⟩)]
      (fun b => b = sb ∨ b = Nn) (fun b => EnvB H Sp Ms St Id Od hb mb cl sa b ∨ b = Ok ∨ b = Se ∨ b = sb ∨ b = Nn) (fun _ => true) (fun c => c ∈ cl ∧ Wants (mdOf M cl) (wdOf W cl) (idOf I cl) set q older c)
      (ExactJ H Sp Ms St Id Od Ok Se sb Nn sa n sc hb hc mb mc I M W cl set q older) := by
  refine ⟨?_, ?_⟩
  · rintro l c w ⟨hE, hok, hse, hsr, hca, hln, hlm⟩ ⟨hcm, hw⟩ hcl
    have hll : l.length ≤ 300 := by have := hln.length_le_of_subset (fun x hx => hlm x hx); omega
    obtain ⟨j, hj, rfl⟩ := mem_getD hcm
    have hqu := (wants_qual (I := I) (M := M) (W := W) (set := set) (q := q) (older := older) hnd hj).1 hw
    rw [hl] at hj
    have hix := index_any hb n hc (fun j => cl.getD j 0) (by omega) (fun a b ha hb => core_inj hnd a b (by omega) (by omega)) j hj w hE.cores (fun j hj => (hE.cell j hj).1)
    have hql := qual_any sa n sc mb mc I M W hI hM (by omega) set q hs hq older j hj w hE.spec (hE.modes j hj)
    rw [hqu] at hql
    have c0 := hE.h
    have c1 := hE.sp
    have c2 := hE.ms
    have c3 := hE.st
    have c4 := hE.id
    have c5 := hE.od
    have c6 := hca.cell (j := 0) (by omega)
    have c7 := hca.frozen 0
    have s0 := hsr.cell hj
    have s1 : seenRow cl l j = .bool false := by unfold seenRow; rw [decide_eq_false hcl]
    rw [s1] at s0
    have s2 := hsr.frozen j
    have T : Turned w ((w.setCell ⟨sb, j, none⟩ (.bool true)).setCell ⟨Nn, 0, none⟩ (.int .i64 ((l.length : Int) + 1))) (fun b => b = sb ∨ b = Nn) := ((Turned.refl w (fun b => b = sb ∨ b = Nn)).setCell ⟨sb, j, none⟩ (.inl (.inl rfl)) _).setCell ⟨Nn, 0, none⟩ (.inl (.inr rfl)) _
    have hfin : Hid (ExactJ H Sp Ms St Id Od Ok Se sb Nn sa n sc hb hc mb mc I M W cl set q older (l ++ [cl.getD j 0]) ((w.setCell ⟨sb, j, none⟩ (.bool true)).setCell ⟨Nn, 0, none⟩ (.int .i64 ((l.length : Int) + 1)))) := by
      refine ⟨hE.turned hl T (fun b hb e => e.elim (fun e => hE1 (e ▸ hb)) (fun e => hE2 (e ▸ hb))), T.cell hok (fun e => e.elim x1 x2), T.cell hse (fun e => e.elim x3 x4), ?_, ?_, snoc_nodup hln hcl, snoc_sub hlm hcm⟩
      · exact ((hsr.set j _ hj).other _ _ (by simp; exact x5)).congr (seen_step hnd hl hj)
      · refine ((hca.other ⟨sb, j, none⟩ (.bool true) (by simp; exact fun e => x5 e.symm)).set 0 _ (by omega)).congr (fun i hi => ?_)
        obtain rfl : i = 0 := by omega
        simp [upd]
    have hTf : Hid (Turned w _ (fun b => b = sb ∨ b = Nn)) := T
    have c8 : (w.setCell ⟨sb, j, none⟩ (.bool true)).cell? ⟨Nn, 0, none⟩ = some (.int .i64 (l.length : Nat)) := (hca.other ⟨sb, j, none⟩ (.bool true) (by simp; exact fun e => x5 e.symm)).cell (by omega)
    obtain ⟨cj, hcj⟩ : ∃ cj, cj = cl.getD j 0 := ⟨_, rfl⟩
    simp only [← hcj] at hix hfin hcl hcm ⊢
    obtain ⟨ll, hle⟩ : ∃ ll : Nat, ll = l.length := ⟨_, rfl⟩
    rw [← hle] at c6 hfin hTf hll c8
    clear hle hcj hE hca hw hlm hln hcl hcm hqu T hsr s1 hok
    show Calls Yba.prog 15 #[.pointer (some ⟨cj, 0, none⟩), .pointer (some ⟨H, 0, none⟩), .pointer (some ⟨Se, 0, none⟩), .pointer (some ⟨Sp, 0, none⟩), .pointer (some ⟨Ms, 0, none⟩), .pointer (some ⟨St, 0, none⟩), .pointer (some ⟨Id, 0, none⟩), .pointer (some ⟨Od, 0, none⟩), .pointer (some ⟨Ok, 0, none⟩), .pointer (some ⟨Nn, 0, none⟩)] w _
    go_enter Yba.func15, Yba.ntmps15
    go_wp2_with first | (go_at_call 16; refine hix.mono ?_; rintro e w' ⟨rfl, rfl⟩) | (go_at_call 13; refine hql.mono ?_; rintro e w' ⟨rfl, rfl⟩)
    go_ret
    exact ⟨rfl, hfin.out, hTf.out⟩
  · rintro l w w' T ⟨hE, hok, hse, hsr, hca, hln, hlm⟩ hT hM
    exact ⟨hE.turned hl hT (fun b hb => hM b (.inl hb)), hT.cell hok (hM Ok (.inr (.inl rfl))), hT.cell hse (hM Se (.inr (.inr (.inl rfl)))), hT.row hsr (hM sb (.inr (.inr (.inr (.inl rfl))))), hT.row hca (hM Nn (.inr (.inr (.inr (.inr rfl))))), hln, hlm⟩
end Go.Proofs.Ybulkcrkq
