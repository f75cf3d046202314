/- What the laws' yields look at. -/
import Derived.Test.YbulkcrkqBuild
namespace Go.Proofs.Ybulkcrkq
open Go.ChangeShapes Go.WideShapes Go.ChangeAt Go.RowKit
set_option maxHeartbeats 4000000
set_option maxRecDepth 20000
set_option linter.unusedVariables false

def mdOf (M : Nat → Int) (cl : List Nat) (c : Nat) : Nat := (M (cl.idxOf c) % 5 + 1).toNat
def wdOf (W : Nat → Bool) (cl : List Nat) (c : Nat) : Int := if W (cl.idxOf c) then 1 else 0
def idOf (I : Nat → Int) (cl : List Nat) (c : Nat) : Int := I (cl.idxOf c) % 16 + 1

theorem idx_getD {cl : List Nat} (hn : cl.Nodup) {j : Nat} (hj : j < cl.length) : cl.idxOf (cl.getD j 0) = j := by
  have e1 : cl.getD j 0 = cl[j] := by simp [List.getD, hj]
  rw [e1]
  exact hn.idxOf_getElem j hj

theorem mem_getD {cl : List Nat} {c : Nat} (h : c ∈ cl) : ∃ j, j < cl.length ∧ cl.getD j 0 = c := by
  obtain ⟨j, hj, e⟩ := List.getElem_of_mem h
  exact ⟨j, hj, by simp [List.getD, hj, e]⟩

/-- To be wanted is to qualify. -/
theorem wants_qual {I M : Nat → Int} {W : Nat → Bool} {cl : List Nat} {set q : Int} {older : Bool} (hn : cl.Nodup) {j : Nat} (hj : j < cl.length) :
    Wants (mdOf M cl) (wdOf W cl) (idOf I cl) set q older (cl.getD j 0) ↔ qual I M W set q older j = true := by
  unfold Wants mdOf wdOf idOf qual
  rw [idx_getD hn hj]
  have h0 := Int.emod_nonneg (M j) (show (5 : Int) ≠ 0 by omega)
  have e : (((M j % 5 + 1).toNat : Nat) : Int) = M j % 5 + 1 := by omega
  rw [e]
  cases W j <;> simp

/-- The blocks that both laws' yields look at. -/
def EnvB (H Sp Ms St Id Od hb mb : Nat) (cl : List Nat) (sa : Option Addr) (b : Nat) : Prop := b ∈ [H, Sp, Ms, St, Id, Od, hb, mb] ∨ b ∈ cl ∨ ∃ off, sa = some ⟨b, off, none⟩

structure LawEnv (w : World) (H Sp Ms St Id Od : Nat) (sa : Option Addr) (n sc hb hc mb mc : Nat) (I M : Nat → Int) (W : Nat → Bool) (cl : List Nat) (set q : Int) (older : Bool) : Prop where
  h : w.cell? ⟨H, 0, none⟩ = some (.slice (some ⟨hb, 0, none⟩) n hc)
  sp : w.cell? ⟨Sp, 0, none⟩ = some (.slice sa n sc)
  ms : w.cell? ⟨Ms, 0, none⟩ = some (.slice (some ⟨mb, 0, none⟩) n mc)
  st : w.cell? ⟨St, 0, none⟩ = some (.int .u8 set)
  id : w.cell? ⟨Id, 0, none⟩ = some (.int .u64 q)
  od : w.cell? ⟨Od, 0, none⟩ = some (.bool older)
  spec : SpecAt w sa n I M W
  cores : CoresAt w hb n (fun j => cl.getD j 0)
  modes : ∀ j, j < n → w.cell? ⟨mb, j, none⟩ = some (.int .u8 (M j % 5 + 1))
  cell : ∀ j, j < n → NewCore (cl.getD j 0) (if W j then 1 else 0) (I j % 16 + 1) w

theorem specAt_turned {w w' : World} {sa : Option Addr} {n : Nat} {I M : Nat → Int} {W : Nat → Bool} {T : Nat → Prop} (h : SpecAt w sa n I M W) (hT : Turned w w' T) (hb : ∀ b off, sa = some ⟨b, off, none⟩ → ¬ T b) : SpecAt w' sa n I M W := by
  rcases h.all with h | ⟨b, off, rfl, hbl, hc⟩
  · exact ⟨.inl h⟩
  · exact ⟨.inr ⟨b, off, rfl, Nat.lt_of_lt_of_le hbl hT.size, fun j hj => ⟨hT.cell (hc j hj).1 (hb b off rfl), hT.cell (hc j hj).2.1 (hb b off rfl), hT.cell (hc j hj).2.2 (hb b off rfl)⟩⟩⟩

theorem LawEnv.turned {w w' : World} {H Sp Ms St Id Od : Nat} {sa : Option Addr} {n sc hb hc mb mc : Nat} {I M : Nat → Int} {W : Nat → Bool} {cl : List Nat} {set q : Int} {older : Bool} {T : Nat → Prop} (h : LawEnv w H Sp Ms St Id Od sa n sc hb hc mb mc I M W cl set q older) (hl : cl.length = n) (hT : Turned w w' T) (hE : ∀ b, EnvB H Sp Ms St Id Od hb mb cl sa b → ¬ T b) : LawEnv w' H Sp Ms St Id Od sa n sc hb hc mb mc I M W cl set q older := by
  have hm : ∀ b, b ∈ [H, Sp, Ms, St, Id, Od, hb, mb] → ¬ T b := fun b hb => hE b (.inl hb)
  refine ⟨hT.cell h.h (hm H (by simp)), hT.cell h.sp (hm Sp (by simp)), hT.cell h.ms (hm Ms (by simp)), hT.cell h.st (hm St (by simp)), hT.cell h.id (hm Id (by simp)), hT.cell h.od (hm Od (by simp)), specAt_turned h.spec hT (fun b off e => hE b (.inr (.inr ⟨off, e⟩))), fun j hj => hT.cell (h.cores j hj) (hm hb (by simp)), fun j hj => hT.cell (h.modes j hj) (hm mb (by simp)), fun j hj => (h.cell j hj).turned hT (hE _ (.inr (.inl (getD_mem (by omega)))))⟩

/-- The state while BStop's yield is called: l has been yielded. -/
def StopJ (H Sp Ms St Id Od Ok Ca K : Nat) (sa : Option Addr) (n sc hb hc mb mc : Nat) (I M : Nat → Int) (W : Nat → Bool) (cl : List Nat) (set q : Int) (older : Bool) (k : Nat) (l : List Nat) (w : World) : Prop :=
  LawEnv w H Sp Ms St Id Od sa n sc hb hc mb mc I M W cl set q older ∧ w.cell? ⟨Ok, 0, none⟩ = some (.bool true) ∧ RowAt w Ca 3 1 (fun _ => .int .i64 (l.length : Nat)) ∧ w.cell? ⟨K, 0, none⟩ = some (.int .i64 (k : Nat)) ∧ l.Nodup ∧ ∀ x, x ∈ l → x ∈ cl

theorem core_inj {cl : List Nat} (hn : cl.Nodup) : ∀ i j, i < cl.length → j < cl.length → cl.getD i 0 = cl.getD j 0 → i = j := fun i j hi hj h => getD_inj hn hi hj h

theorem snoc_nodup {l : List Nat} {c : Nat} (h : l.Nodup) (hc : c ∉ l) : (l ++ [c]).Nodup :=
  List.nodup_append.2 ⟨h, by simp, fun a ha b hb' => by simp at hb'; subst hb'; exact fun e => hc (e ▸ ha)⟩
theorem snoc_sub {l cl : List Nat} {c : Nat} (h : ∀ x, x ∈ l → x ∈ cl) (hc : c ∈ cl) : ∀ x, x ∈ l ++ [c] → x ∈ cl := by
  intro x hx
  rcases List.mem_append.1 hx with hx | hx
  · exact h x hx
  · simp at hx
    subst hx
    exact hc

theorem yieldStop {H Sp Ms St Id Od Ok Ca K : Nat} {sa : Option Addr} {n sc hb hc mb mc : Nat} {I M : Nat → Int} {W : Nat → Bool} {cl : List Nat} {set q : Int} {older : Bool} {k : Nat} (hI : ∀ j, 0 ≤ I j ∧ I j ≤ 255) (hM : ∀ j, 0 ≤ M j ∧ M j ≤ 255) (hn : n ≤ 300) (hl : cl.length = n) (hnd : cl.Nodup) (hs : 0 ≤ set ∧ set ≤ 255) (hq : 0 ≤ q ∧ q < 100) (hk : k ≤ 100)
    (hCa : ¬ EnvB H Sp Ms St Id Od hb mb cl sa Ca) (hCo : Ca ≠ Ok) (hCk : Ca ≠ K) :
    YieldOk 17 #[.pointer (some ⟨H, 0, none⟩), .pointer (some ⟨Sp, 0, none⟩), .pointer (some ⟨Ms, 0, none⟩), .pointer (some ⟨St, 0, none⟩), .pointer (some ⟨Id, 0, none⟩), .pointer (some ⟨Od, 0, none⟩), .pointer (some ⟨Ok, 0, none⟩), .pointer (some ⟨Ca, 0, none⟩), .pointer (some ⟨K, 0, none⟩)]
      (fun b => b = Ca) (fun b => EnvB H Sp Ms St Id Od hb mb cl sa b ∨ b = Ok ∨ b = Ca ∨ b = K) (fun l => decide (l.length < k)) (fun c => c ∈ cl ∧ Wants (mdOf M cl) (wdOf W cl) (idOf I cl) set q older c)
      (StopJ H Sp Ms St Id Od Ok Ca K sa n sc hb hc mb mc I M W cl set q older k) := by
  refine ⟨?_, ?_⟩
  · rintro l c w ⟨hE, hok, hca, hkk, hln, hlm⟩ ⟨hcm, hw⟩ hcl
    have hll : l.length ≤ 300 := by have := hln.length_le_of_subset (fun x hx => hlm x hx); omega
    obtain ⟨j, hj, rfl⟩ := mem_getD hcm
    have hqu := (wants_qual (I := I) (M := M) (W := W) (set := set) (q := q) (older := older) hnd hj).1 hw
    rw [hl] at hj
    have hix := index_any hb n hc (fun j => cl.getD j 0) (by omega) (fun a b ha hb => core_inj hnd a b (by omega) (by omega)) j hj w hE.cores (fun j hj => (hE.cell j hj).1)
    have hql := qual_any sa n sc mb mc I M W hI hM (by omega) set q hs hq older j hj w hE.spec (hE.modes j hj)
    rw [hqu] at hql
    have c0 := hE.h
    have c1 := hE.sp
    have c2 := hE.ms
    have c3 := hE.st
    have c4 := hE.id
    have c5 := hE.od
    have c6 := hca.cell (j := 0) (by omega)
    have c7 := hca.frozen 0
    have hfin : Hid (StopJ H Sp Ms St Id Od Ok Ca K sa n sc hb hc mb mc I M W cl set q older k (l ++ [cl.getD j 0]) (w.setCell ⟨Ca, 0, none⟩ (.int .i64 ((l.length : Int) + 1)))) := by
      have T : Turned w (w.setCell ⟨Ca, 0, none⟩ (.int .i64 ((l.length : Int) + 1))) (fun b => b = Ca) := (Turned.refl w (fun b => b = Ca)).setCell ⟨Ca, 0, none⟩ (.inl rfl) _
      refine ⟨hE.turned hl T (fun b hb e => hCa (e ▸ hb)), T.cell hok (fun e => hCo e.symm), ?_, T.cell hkk (fun e => hCk e.symm), ?_, ?_⟩
      · refine (hca.set 0 _ (by omega)).congr (fun i hi => ?_)
        obtain rfl : i = 0 := by omega
        simp [upd]
      · exact snoc_nodup hln hcl
      · exact snoc_sub hlm hcm
    have hTf : Hid (Turned w (w.setCell ⟨Ca, 0, none⟩ (.int .i64 ((l.length : Int) + 1))) (fun b => b = Ca)) := (Turned.refl w (fun b => b = Ca)).setCell ⟨Ca, 0, none⟩ (.inl rfl) _
    obtain ⟨cj, hcj⟩ : ∃ cj, cj = cl.getD j 0 := ⟨_, rfl⟩
    simp only [← hcj] at hix hfin hcl hcm ⊢
    have hgo : decide ((l ++ [cj]).length < k) = decide ((l.length : Int) + 1 < k) := by simp; omega
    rw [hgo]
    obtain ⟨ll, hle⟩ : ∃ ll : Nat, ll = l.length := ⟨_, rfl⟩
    rw [← hle] at c6 hfin hTf hll ⊢
    clear hle hgo hcj hE hca hw hlm hln hcl hcm hqu
    show Calls Yba.prog 17 #[.pointer (some ⟨cj, 0, none⟩), .pointer (some ⟨H, 0, none⟩), .pointer (some ⟨Sp, 0, none⟩), .pointer (some ⟨Ms, 0, none⟩), .pointer (some ⟨St, 0, none⟩), .pointer (some ⟨Id, 0, none⟩), .pointer (some ⟨Od, 0, none⟩), .pointer (some ⟨Ok, 0, none⟩), .pointer (some ⟨Ca, 0, none⟩), .pointer (some ⟨K, 0, none⟩)] w _
    go_enter Yba.func17, Yba.ntmps17
    go_wp2_with first | (go_at_call 16; refine hix.mono ?_; rintro e w' ⟨rfl, rfl⟩) | (go_at_call 13; refine hql.mono ?_; rintro e w' ⟨rfl, rfl⟩)
    go_ret
    exact ⟨rfl, hfin.out, hTf.out⟩
  · rintro l w w' T ⟨hE, hok, hca, hkk, hln, hlm⟩ hT hM
    exact ⟨hE.turned hl hT (fun b hb => hM b (.inl hb)), hT.cell hok (hM Ok (.inr (.inl rfl))), hT.row hca (hM Ca (.inr (.inr (.inl rfl)))), hT.cell hkk (hM K (.inr (.inr (.inr rfl)))), hln, hlm⟩
end Go.Proofs.Ybulkcrkq
