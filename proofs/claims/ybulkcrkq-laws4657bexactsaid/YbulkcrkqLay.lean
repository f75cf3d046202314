/- layOut: the tree over a list. -/
import Derived.Test.YbulkcrkqAbove
import Derived.Test.YbulkcrkqShelf
import Derived.Deep.RegionWith
namespace Go.Proofs.Ybulkcrkq
open Go.ChangeShapes Go.WideShapes Go.ChangeAt Go.RowKit
set_option maxHeartbeats 1000000
set_option maxRecDepth 20000
set_option linter.unusedVariables false

theorem Turned.row {a b : World} {T : Nat → Prop} (h : Turned a b T) {k : Nat} {e : TypeId} {n : Nat} {g : Nat → Value} (hr : RowAt a k e n g) (hk : ¬ T k) : RowAt b k e n g := hr.of_block (h.block k hr.lt hk)

/-- The tree over a list of n ages: its window's leaves are the ages, and each node over a leaf bounds it. -/
structure TreeOk (n d bs : Nat) (ag : Nat → Int) (lo hi : Nat → Int) : Prop where
  fit : bs + n ≤ 2 ^ d
  dep : d ≤ 12
  leaf : ∀ i, i < n → lo (2 ^ d + bs + i) = leafLo (ag i) ∧ hi (2 ^ d + bs + i) = leafHi (ag i)
  over : ∀ i, i < n → ∀ s, s ≤ d → lo ((2 ^ d + bs + i) / 2 ^ s) ≤ leafLo (ag i) ∧ leafHi (ag i) ≤ hi ((2 ^ d + bs + i) / 2 ^ s)

theorem bitLen_small : ∀ x : Fin 1024, x.val < 2 ^ Lib.bitLen x.val ∧ Lib.bitLen x.val ≤ 10 := by decide +kernel

theorem treeOk_of {n d bs : Nat} {ag lo0 hi0 lo hi : Nat → Int} (hf : bs + n ≤ 2 ^ d) (hd : d ≤ 12) (hn : 1 ≤ n)
    (h : Bounds (2 ^ d) (2 ^ d + bs) (2 ^ d + bs + n - 1) (d + 1) (leaves leafLo ag (2 ^ d + bs) n lo0) (leaves leafHi ag (2 ^ d + bs) n hi0) lo hi) : TreeOk n d bs ag lo hi := by
  have e : ∀ (g : Int → Int) (f : Nat → Int) i, i < n → leaves g ag (2 ^ d + bs) n f (2 ^ d + bs + i) = g (ag i) := by
    intro g f i hi
    unfold leaves
    rw [if_pos (by omega), show 2 ^ d + bs + i - (2 ^ d + bs) = i by omega]
  refine ⟨hf, hd, fun i hi => ?_, fun i hi s hs => ?_⟩
  · have := h.leaf (2 ^ d + bs + i) (by omega)
    rw [e _ _ i hi, e _ _ i hi] at this
    exact this
  · have := h.over (2 ^ d + bs + i) (by omega) (by omega) s (by omega)
    rw [e _ _ i hi, e _ _ i hi] at this
    exact this

theorem info128 : (Yba.prog.info? 128).map (fun i => (i.zero, i.size, i.bytes)) = some (some (.agg #[.int .u64 0, .int .u64 0]), 2, 16) := by kernel_rfl

theorem mkNodes (n : Nat) (hn : n ≤ 10000) (w : World) :
    (Instr.makeSlice 108 (.int .i64 (n : Int)) (.int .i64 (n : Int))).run Yba.prog w = .ok (.slice (some ⟨w.heap.size, 0, none⟩) n n) (w.alloc (.cells (madeCells #[.int .u64 0, .int .u64 0] (n * 2)) 128)) := by
  obtain ⟨i0, hi, he⟩ := Option.map_eq_some_iff.1 info128
  simp only [Prod.mk.injEq] at he
  obtain ⟨hz0, hzs, hz2⟩ := he
  have hb : (i0.bytes : Int) * (n : Int) ≤ 281474976710656 := by
    rw [hz2]
    omega
  have h := run_make (P := Yba.prog) w 108 128 i0 (.agg #[.int .u64 0, .int .u64 0]) Yba.underlying108 hi hz0 .i64 .i64 (n : Int) (n : Int) (by omega) (by omega) hb (by omega)
  rw [h]
  simp [hzs, Value.cells]

theorem mkNodes' (sz : Nat) (h : sz ≤ 1024) (w : World) :
    (Instr.makeSlice 108 (.int .i64 (2 * (sz : Int))) (.int .i64 (2 * (sz : Int)))).run Yba.prog w = .ok (.slice (some ⟨w.heap.size, 0, none⟩) (2 * sz) (2 * sz)) (w.alloc (.cells (madeCells #[.int .u64 0, .int .u64 0] (2 * sz * 2)) 128)) := by
  have := mkNodes (2 * sz) (by omega) w
  rw [show ((2 * sz : Nat) : Int) = 2 * (sz : Int) by omega] at this
  exact this

theorem nodes_made (w : World) (n : Nat) : RowAt (w.alloc (.cells (madeCells #[.int .u64 0, .int .u64 0] (n * 2)) 128)) w.heap.size 128 (n * 2) (nd (fun _ => 0) (fun _ => 0)) := by
  refine ⟨_, (MapKept.heap_alloc w _).1, size_madeCells _ _, fun j hj => ?_⟩
  have h2 : j % 2 = 0 ∨ j % 2 = 1 := by omega
  rcases h2 with h2 | h2 <;> simp [madeCells, hj, nd, h2]

theorem lay_nums (n : Nat) (hn1 : 1 ≤ n) (hn : n ≤ 400) : ∃ d sz bs : Nat, d = Lib.bitLen (2 * n - 1) ∧ sz = 2 ^ d ∧ d ≤ 10 ∧ sz ≤ 1024 ∧ wrap64 ((2 : Int) ^ d) = (sz : Int) ∧ ((sz : Int) - (n : Int)) / 2 = (bs : Int) ∧ bs + n ≤ sz := by
  have hb := bitLen_small ⟨2 * n - 1, by omega⟩
  obtain ⟨d, hd⟩ : ∃ d, d = Lib.bitLen (2 * n - 1) := ⟨_, rfl⟩
  have h1 : 2 * n - 1 < 2 ^ d ∧ d ≤ 10 := by rw [hd]; exact hb
  have h2 : 2 ^ d ≤ 2 ^ 10 := Nat.pow_le_pow_right (by omega) h1.2
  obtain ⟨sz, hsz⟩ : ∃ sz : Nat, sz = 2 ^ d := ⟨_, rfl⟩
  have hpw : ((2 : Int) ^ d) = (sz : Int) := by rw [hsz, Int.natCast_pow]; rfl
  rw [← hsz] at h1 h2
  refine ⟨d, sz, (sz - n) / 2, hd, hsz, h1.2, h2, ?_, by omega, by omega⟩
  rw [hpw]
  unfold wrap64
  omega

/-- What layOut leaves. -/
def LaidOut (L p n eL nL : Nat) (g : Nat → Value) (ag : Nat → Int) (w w' : World) : Prop :=
  ∃ N d bs lo hi, RowAt w' L eL nL (upd (upd (upd g (p + 2) (.int .i64 ((2 ^ d : Nat) : Int))) (p + 3) (.int .i64 (bs : Nat))) (p + 1) (.slice (some ⟨N, 0, none⟩) (2 * 2 ^ d) (2 * 2 ^ d))) ∧ RowAt w' N 128 (2 * 2 ^ d * 2) (nd lo hi) ∧ TreeOk n d bs ag lo hi ∧ w.heap.size ≤ N ∧ Turned w w' (fun b => b = L)

theorem layOut_any (L p tb n cap eL nL : Nat) (g : Nat → Value) (cs : Nat → Nat) (wd id : Nat → Int) (w : World) (hn1 : 1 ≤ n) (hn : n ≤ 400) (hp : p + 3 < nL) (hid : ∀ i, 0 ≤ id i ∧ id i ≤ 100)
    (hL : ListAt w L p tb n cap cs wd id) (hR : RowAt w L eL nL g) (m1 : tb ≠ L) (m2 : ∀ i, i < n → cs i ≠ L) :
    Calls Yba.prog 34 #[.pointer (some ⟨L, p + 1, none⟩), .int .i64 n, .func (.func 26) #[.pointer (some ⟨L, p, none⟩)] #[]] w fun e w' => e = .returned (.tuple #[]) ∧
      LaidOut L p n eL nL g (fun i => ageOf (wd i) (id i)) w w' := by
  obtain ⟨d, sz, bs, hd, hsz, hd10, hsz1, hw64, hbi, hbn⟩ := lay_nums n hn1 hn
  have hlen0 := bits_Len (2 * (n : Int) - 1) w (by omega) (by omega)
  have e1 : (2 * (n : Int) - 1).toNat = 2 * n - 1 := by omega
  rw [e1, ← hd] at hlen0
  have hlen : Calls Yba.prog 42 #[.int .u64 (2 * (n : Int) - 1)] w fun e w' => e = .returned (.int .i64 (d : Nat)) ∧ w = w' := hlen0.mono (fun e w' h => ⟨h.1, h.2.symm⟩)
  have q1 := hR.cell (show p + 1 < nL by omega)
  have q2 := hR.cell (show p + 2 < nL by omega)
  have q3 := hR.cell (show p + 3 < nL by omega)
  have qF := hR.frozen
  have hLl := hR.lt
  have HSZ : Hid (sz = 2 ^ d) := hsz
  have mk := mkNodes' sz hsz1
  clear hlen0 hd e1 hsz
  go_enter Yba.func34, Yba.ntmps34
  go_wp2_with (go_at_call 42; refine hlen.mono ?_; rintro e w' ⟨rfl, rfl⟩)
  have hX : (((w.setCell ⟨L, p + 1 + 1, none⟩ (.int .i64 (sz : Int))).setCell ⟨L, p + 1 + 2, none⟩ (.int .i64 (bs : Int))).setCell ⟨L, p + 1, none⟩ (.slice (some ⟨w.heap.size, 0, none⟩) (2 * sz) (2 * sz))).heap.size = w.heap.size := by simp
  have hR1 := (((hR.set (p + 2) (.int .i64 (sz : Int)) (by omega)).set (p + 3) (.int .i64 (bs : Int)) (by omega)).set (p + 1) (.slice (some ⟨w.heap.size, 0, none⟩) (2 * sz) (2 * sz)) (by omega)).alloc (.cells (madeCells #[.int .u64 0, .int .u64 0] (2 * sz * 2)) 128)
  have T1 := ((((Turned.refl w (fun b => b = L)).setCell ⟨L, p + 2, none⟩ (.inl rfl) (.int .i64 (sz : Int))).setCell ⟨L, p + 3, none⟩ (.inl rfl) (.int .i64 (bs : Int))).setCell ⟨L, p + 1, none⟩ (.inl rfl) (.slice (some ⟨w.heap.size, 0, none⟩) (2 * sz) (2 * sz))).alloc (.cells (madeCells #[.int .u64 0, .int .u64 0] (2 * sz * 2)) 128)
  have hN1 := nodes_made (((w.setCell ⟨L, p + 1 + 1, none⟩ (.int .i64 (sz : Int))).setCell ⟨L, p + 1 + 2, none⟩ (.int .i64 (bs : Int))).setCell ⟨L, p + 1, none⟩ (.slice (some ⟨w.heap.size, 0, none⟩) (2 * sz) (2 * sz))) (2 * sz)
  rw [hX] at hN1
  have hgp : g p = .slice (some ⟨tb, 0, none⟩) n cap := by
    have h := hR.cell (show p < nL by omega)
    rw [hL.sl] at h
    exact (Option.some.inj h).symm
  obtain ⟨N, hNe⟩ : ∃ N : Nat, N = w.heap.size := ⟨_, rfl⟩
  change RowAt ((((w.setCell ⟨L, p + 1 + 1, none⟩ (.int .i64 (sz : Int))).setCell ⟨L, p + 1 + 2, none⟩ (.int .i64 (bs : Int))).setCell ⟨L, p + 1, none⟩ (.slice (some ⟨w.heap.size, 0, none⟩) (2 * sz) (2 * sz))).alloc (.cells (madeCells #[.int .u64 0, .int .u64 0] (2 * sz * 2)) 128)) L eL nL _ at hR1
  change Turned w ((((w.setCell ⟨L, p + 1 + 1, none⟩ (.int .i64 (sz : Int))).setCell ⟨L, p + 1 + 2, none⟩ (.int .i64 (bs : Int))).setCell ⟨L, p + 1, none⟩ (.slice (some ⟨w.heap.size, 0, none⟩) (2 * sz) (2 * sz))).alloc (.cells (madeCells #[.int .u64 0, .int .u64 0] (2 * sz * 2)) 128)) _ at T1
  generalize ((((w.setCell ⟨L, p + 1 + 1, none⟩ (.int .i64 (sz : Int))).setCell ⟨L, p + 1 + 2, none⟩ (.int .i64 (bs : Int))).setCell ⟨L, p + 1, none⟩ (.slice (some ⟨w.heap.size, 0, none⟩) (2 * sz) (2 * sz))).alloc (.cells (madeCells #[.int .u64 0, .int .u64 0] (2 * sz * 2)) 128)) = w1 at hR1 T1 hN1 ⊢
  rw [← hNe] at hR1 hN1 ⊢
  have htb : tb ≠ N := by have h := World.block_lt_of_cell? w _ (hL.ts 0 (by omega)); simp only at h; omega
  have hcs : ∀ i, i < n → cs i ≠ N := fun i hi => by have h := World.block_lt_of_cell? w _ (hL.wd i hi); simp only at h; omega
  have hL1 : ListAt w1 L p tb n cap cs wd id := by
    refine ⟨?_, fun i hi => T1.cell (hL.ts i hi) m1, fun i hi => T1.cell (hL.wd i hi) (m2 i hi), fun i hi => T1.cell (hL.id i hi) (m2 i hi)⟩
    rw [hR1.cell (show p < nL by omega), upd_other _ _ _ (by omega), upd_other _ _ _ (by omega), upd_other _ _ _ (by omega), hgp]
  have hT1 : TreeAt w1 L (p + 1) N (2 * sz) sz bs := by
    refine ⟨?_, ?_, ?_⟩
    · rw [hR1.cell (show p + 1 < nL by omega), upd_same]
    · rw [hR1.cell (show p + 1 + 1 < nL by omega), upd_other _ _ _ (by omega), upd_other _ _ _ (by omega), upd_same]
    · rw [hR1.cell (show p + 1 + 2 < nL by omega), upd_other _ _ _ (by omega), upd_same]
  have hLN : L ≠ N := by omega
  clear q1 q2 q3 qF hlen mk hX hgp
  refine (setLeaves_any L p tb n cap N sz bs cs wd id _ _ w1 (by omega) (by omega) hbn hid hL1 hT1 hN1 hLN htb hcs).mono ?_
  rintro e w2 ⟨rfl, hN2, T2⟩
  have hT2 := hT1.turned T2 hLN
  have hR2 := T2.row hR1 hLN
  have u0 := hT2.nd
  have u1 := hT2.sz
  have u2 := hT2.bs
  have TT2 : Turned w w2 (fun b => b = L) := T1.trans (T2.mono (fun b _ h => .inr (by omega)))
  have ud0 : w2.drew.cell? ⟨L, p + 1, none⟩ = some (.slice (some ⟨N, 0, none⟩) (2 * sz) (2 * sz)) := by rw [World.cell?_drew]; exact u0
  have ud1 : w2.drew.cell? ⟨L, p + 1 + 1, none⟩ = some (.int .i64 (sz : Int)) := by rw [World.cell?_drew]; exact u1
  have hA := setAbove_any L (p + 1) N d sz bs n HSZ.out (by omega) hn1 hbn _ _ w2.drew ud0 ud1 hN2.drew hLN
  have ud2 : w2.drew.cell? ⟨L, p + 1 + 2, none⟩ = some (.int .i64 (bs : Int)) := by rw [World.cell?_drew]; exact u2
  have HN2 : Hid (Turned w w2 (fun b => b = L)) := TT2
  have HR2 : Hid (RowAt w2 L eL nL _) := hR2
  clear ud0 ud1 u0 u1 hT2 hT1 hN1 hN2 T1 T2 hR1 hR2 hL1 hL hR hid m1 m2 hcs htb hw64 hbi TT2
  go_upto_region 4 with fail
  have hwr : (IntKind.i64.wrap ((bs : Int) + n)) = (bs : Int) + n := by rw [IntKind.wrap_i64]; omega
  rw [← hwr] at hA
  clear hwr
  go_region_with (first | (go_at_call 39; refine hA.mono ?_; rintro e w3 ⟨rfl, ⟨lo, hi, hN3, hB3⟩, T3⟩))
  all_goals
    have hR3 : RowAt w3 L eL nL _ := T3.row HR2.out.drew hLN
    have T3' : Turned w w3 (fun b => b = L) := HN2.out.drew.trans (T3.mono (fun b _ h => .inr (by omega)))
    have e := HSZ.out
    subst e
    go_end0
    exact ⟨rfl, N, d, bs, lo, hi, hR3, hN3, treeOk_of hbn (by omega) hn1 hB3, by omega, T3'⟩
end Go.Proofs.Ybulkcrkq
