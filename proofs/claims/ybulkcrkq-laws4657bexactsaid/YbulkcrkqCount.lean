/- Counting; the look's start from what build made. -/
import Derived.Test.YbulkcrkqYields
import Derived.Test.YbulkcrkqSeqPre
namespace Go.Proofs.Ybulkcrkq
open Go.ChangeShapes Go.WideShapes Go.ChangeAt Go.RowKit
set_option maxHeartbeats 4000000
set_option maxRecDepth 20000
set_option linter.unusedVariables false

/-- How many of the first j qualify. -/
def cq (p : Nat → Bool) (j : Nat) : Nat := ((List.range j).filter p).length

theorem cq_zero (p : Nat → Bool) : cq p 0 = 0 := rfl
theorem cq_succ (p : Nat → Bool) (j : Nat) : cq p (j + 1) = cq p j + if p j then 1 else 0 := by
  unfold cq
  rw [List.range_succ, List.filter_append, List.length_append]
  congr 1
  cases h : p j <;> simp [h]
theorem cq_le (p : Nat → Bool) (j : Nat) : cq p j ≤ j := by
  have := List.length_filter_le p (List.range j)
  simpa [cq] using this

theorem visit_len (k : Nat) : ∀ (D l : List Nat), l.length < k → (visit (fun l => decide (l.length < k)) l D).1.length = min k (l.length + D.length)
  | [], l, h => by
    show l.length = _
    simp
    omega
  | c :: D, l, h => by
    by_cases hk : (l ++ [c]).length < k
    · rw [visit_yes (go := fun l => decide (l.length < k)) (by simpa using hk), visit_len k D _ hk]
      simp
      omega
    · rw [visit_no (go := fun l => decide (l.length < k)) (by simpa using hk)]
      simp at hk ⊢
      omega

theorem visit_all : ∀ (D l : List Nat), (visit (fun _ => true) l D).1 = l ++ D
  | [], l => by simp [visit]
  | c :: D, l => by
    rw [visit_yes (go := fun _ => true) rfl, visit_all D]
    simp

/-- The wanted ones are as many as those that qualify. -/
theorem wanted_len {I M : Nat → Int} {W : Nat → Bool} {cl D : List Nat} {set q : Int} {older : Bool} {n : Nat} (hn : cl.Nodup) (hl : cl.length = n) (hD : D.Nodup) (hm : ∀ c, c ∈ D ↔ c ∈ cl ∧ Wants (mdOf M cl) (wdOf W cl) (idOf I cl) set q older c) : D.length = cq (qual I M W set q older) n := by
  have hp : D.Perm (((List.range n).filter (qual I M W set q older)).map (fun j => cl.getD j 0)) := by
    rw [List.perm_ext_iff_of_nodup hD (map_nodup hn (List.nodup_range.filter _) (fun i hi => by simp at hi; omega))]
    intro c
    rw [hm c, List.mem_map]
    constructor
    · rintro ⟨h1, h2⟩
      obtain ⟨j, hj, rfl⟩ := mem_getD h1
      exact ⟨j, by simp; exact ⟨by omega, (wants_qual hn hj).1 h2⟩, rfl⟩
    · rintro ⟨j, hj, rfl⟩
      simp at hj
      exact ⟨getD_mem (by omega), (wants_qual hn (by omega)).2 hj.2⟩
  rw [hp.length_eq, List.length_map]
  rfl

theorem md_cast {M : Nat → Int} {cl : List Nat} (hn : cl.Nodup) {j : Nat} (hj : j < cl.length) : ((mdOf M cl (cl.getD j 0) : Nat) : Int) = M j % 5 + 1 := by
  unfold mdOf
  rw [idx_getD hn hj]
  have h0 := Int.emod_nonneg (M j) (show (5 : Int) ≠ 0 by omega)
  omega

theorem md_range (M : Nat → Int) (cl : List Nat) (c : Nat) : 1 ≤ mdOf M cl c ∧ mdOf M cl c ≤ 5 := by
  unfold mdOf
  have h0 := Int.emod_nonneg (M (cl.idxOf c)) (show (5 : Int) ≠ 0 by omega)
  have h1 := Int.emod_lt_of_pos (M (cl.idxOf c)) (show (0 : Int) < 5 by omega)
  omega

theorem id_range (I : Nat → Int) (cl : List Nat) (c : Nat) : 1 ≤ idOf I cl c ∧ idOf I cl c ≤ 100 := by
  unfold idOf
  have h0 := Int.emod_nonneg (I (cl.idxOf c)) (show (16 : Int) ≠ 0 by omega)
  have h1 := Int.emod_lt_of_pos (I (cl.idxOf c)) (show (0 : Int) < 16 by omega)
  omega

theorem seqPre_of {w : World} {Y Mb : Nat → Prop} {S1 S2 S3 S4 s c0 : Nat} {oth : Option Nat} {m : Nat} {cnt : Nat → Int} {age : Option Addr} {kc : List Nat} {v : Option Addr → Int × Int} {I M : Nat → Int} {W : Nat → Bool} {set q : Int} {older : Bool}
    (c1 : w.cell? ⟨S1, 0, none⟩ = some (.pointer (some ⟨s, 0, none⟩))) (c2 : w.cell? ⟨S2, 0, none⟩ = some (.bool older)) (c3 : w.cell? ⟨S3, 0, none⟩ = some (.int .u64 q)) (c4 : w.cell? ⟨S4, 0, none⟩ = some (.int .u8 set))
    (hset : HSet w s (key c0) (M 0 % 5 + 1) oth m cnt age (kc.map key) v) (hcell : ∀ j, j < (c0 :: kc).length → NewCore ((c0 :: kc).getD j 0) (if W j then 1 else 0) (I j % 16 + 1) w) (hnd : (c0 :: kc).Nodup) (hlen : kc.length ≤ 400)
    (hv1 : ∀ j, 1 ≤ j → j < (c0 :: kc).length → (v (key ((c0 :: kc).getD j 0))).1 = M j % 5 + 1) (hs : 0 ≤ set ∧ set ≤ 255) (hq : 0 ≤ q ∧ q ≤ 100)
    (hage : AgeOk w Y Mb [S1, S2, S3, S4] c0 kc (mdOf M (c0 :: kc)) (wdOf W (c0 :: kc)) (idOf I (c0 :: kc)) age)
    (yold : ∀ b, Y b → b < w.heap.size) (mold : ∀ b, Mb b → b < w.heap.size) (ySs : ∀ b, b ∈ [S1, S2, S3, S4] → ¬ Y b) (ys : ¬ Y s) (yc : ∀ c, c ∈ c0 :: kc → ¬ Y c)
    (yo : ∀ o, oth = some o → ¬ Y o ∧ ¬ Y m ∧ ¬ Mb o ∧ ¬ Mb m ∧ ∀ b, b ∈ [S1, S2, S3, S4] → b ≠ o ∧ b ≠ m) :
    SeqPre w Y Mb S1 S2 S3 S4 s c0 (mdOf M (c0 :: kc) c0) oth m cnt age kc v (mdOf M (c0 :: kc)) (wdOf W (c0 :: kc)) (idOf I (c0 :: kc)) set q older := by
  have e0 : ((mdOf M (c0 :: kc) c0 : Nat) : Int) = M 0 % 5 + 1 := md_cast (j := 0) hnd (by simp)
  refine ⟨c1, c2, c3, c4, by rw [e0]; exact hset, ?_, fun c => id_range I _ c, rfl, ?_, fun c _ => md_range M _ c, hnd, hlen, hs, hq, hage, yold, mold, ySs, ys, yc, yo⟩
  · intro c hc
    obtain ⟨j, hj, rfl⟩ := mem_getD hc
    have h := hcell j hj
    unfold wdOf idOf
    rw [idx_getD hnd hj]
    exact ⟨h.2.1, h.2.2⟩
  · intro c hc
    obtain ⟨j, hj, rfl⟩ := mem_getD (List.mem_cons_of_mem c0 hc)
    rw [md_cast hnd hj]
    refine hv1 j ?_ hj
    by_cases e : j = 0
    · subst e
      exact absurd hc (List.nodup_cons.1 hnd).1
    · omega
end Go.Proofs.Ybulkcrkq
