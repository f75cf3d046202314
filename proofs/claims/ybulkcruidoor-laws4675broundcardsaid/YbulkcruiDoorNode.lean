/- The law's own node: Queued, Broadcast, Round. -/
import Derived.Test.YbulkcruiDoorMem
import Derived.Deep.DeepCutAuto
import Derived.RegionTactic
import Derived.BigRegion
import Derived.BigQuiet
import Derived.Laws.CopyOwn
import Derived.OwnWalk
namespace Go.Proofs.YbulkcruiDoor
open Go.ChangeShapes Go.WideShapes Go.ChangeAt Go.RowKit
set_option maxHeartbeats 400000
set_option maxRecDepth 20000
set_option linter.unusedVariables false

theorem info3 : (Ybad.prog.info? 3).map (fun i => (i.zero, i.size, i.bytes)) = some (some (.int .i64 0), 1, 8) := by kernel_rfl
theorem info5 : (Ybad.prog.info? 5).map (fun i => (i.zero, i.size, i.bytes)) = some (some (.int .u8 0), 1, 1) := by kernel_rfl
theorem info23 : (Ybad.prog.info? 23).map (fun i => (i.zero, i.size, i.bytes)) = some (some (.slice none 0 0), 1, 24) := by kernel_rfl
theorem info24 : (Ybad.prog.info? 24).map (fun i => (i.zero, i.size, i.bytes)) = some (some (.slice none 0 0), 1, 24) := by kernel_rfl
theorem info26 : (Ybad.prog.info? 26).map (fun i => (i.zero, i.size, i.bytes)) = some (some (.agg #[.int .i64 0, .int .i64 0, .slice none 0 0]), 3, 40) := by kernel_rfl

/-- The node's nine cells. -/
def nodeRow (q : Int) (pays rounds recv : Value) (asked : Int) (f t : Int) (fr : Value) (ok : Bool) (j : Nat) : Value :=
  if j = 0 then .int .i64 q else if j = 1 then pays else if j = 2 then rounds else if j = 3 then recv else if j = 4 then .int .i64 asked
  else if j = 5 then .int .i64 f else if j = 6 then .int .i64 t else if j = 7 then fr else .bool ok

/-- A whole copy into a row of the call's own that is just as long. -/
theorem copyAll (w : World) (dT : TypeId) (e : TypeId) (hu : Ybad.prog.underlying dT = some (.slice e)) (hsz : (Ybad.prog.info? e).map (·.size) = some 1)
    (g n cap : Nat) (sp : Option Addr) (sCap : Nat) (G : Nat → Value) (hg : RowAt w g e n G) (hm : n ≤ maxLen)
    (xs : List Value) (hx : xs.length = n) (hsrc : n = 0 ∨ ∃ ad, sp = some ad ∧ ∀ j v, xs[j]? = some v → w.cell? (ad.add j) = some v) (h1 : ∀ v ∈ xs, v.oneCell' = true) :
    ∃ w', (∀ ty, (Builtin.copy_ #[dT, dT] ty #[.slice (some ⟨g, 0, none⟩) n cap, .slice sp n sCap]).run Ybad.prog w = .ok (goInt n) w') ∧ w'.ownsRow g e 1 (.slice (some ⟨g, 0, none⟩) n n) n xs ∧ Turned w w' (fun b => b = g) ∧ w'.heap.size = w.heap.size := by
  obtain ⟨C, hb, hs0, hc⟩ := hg
  have hown : ∀ w' : World, w'.heap[g]? = some (.cells xs.toArray e (0, 0)) → w'.ownsRow g e 1 (.slice (some ⟨g, 0, none⟩) n n) n xs := fun w' hw => ⟨by omega, .inr ⟨g, n, xs.toArray, rfl, Nat.le_refl _, hw, Nat.le_refl _, hm, by simp [hx], by simp [← hx]⟩⟩
  by_cases h0 : n = 0
  · subst h0
    obtain rfl : xs = [] := List.eq_nil_of_length_eq_zero hx
    refine ⟨w, fun ty => run_copy_none (P := Ybad.prog) w dT dT ty e _ _ 0 cap 0 sCap hu hsz (by simp), hown w ?_, Turned.refl _ _, rfl⟩
    have : C = #[] := Array.eq_empty_of_size_eq_zero hs0
    rw [hb, this]
  · rcases hsrc with h' | ⟨ad, rfl, hsrc⟩
    · exact absurd h' h0
    · have hr := fun ty => run_copy_row (P := Ybad.prog) w dT dT ty e g 0 n cap ad n sCap C e xs hu hsz hb (by simp [hx]) hsrc (by omega) h1
      have e1 : C.toList.take 0 ++ xs ++ C.toList.drop (0 + xs.length) = xs := by
        simp
        omega
      simp only [e1] at hr
      rw [hx] at hr
      exact ⟨_, hr, hown _ (setRow_heap w g C _ e _ hb), ⟨rfl, rfl, rfl, by simp [World.setRow], fun k _ hk => setRow_other w g k _ (fun e => hk (by simp [e]))⟩, by simp [World.setRow]⟩

theorem info_parts {t : TypeId} {z : Value} {n by_ : Nat} (h : (Ybad.prog.info? t).map (fun i => (i.zero, i.size, i.bytes)) = some (some z, n, by_)) : ∃ i, Ybad.prog.info? t = some i ∧ i.zero = some z ∧ i.size = n ∧ i.bytes = by_ := by
  obtain ⟨i, hi, he⟩ := Option.map_eq_some_iff.1 h
  simp only [Prod.mk.injEq] at he
  exact ⟨i, hi, he.1, he.2.1, he.2.2⟩

theorem mkInts (t e : TypeId) (z : Value) (by_ : Nat) (hz1 : z.cells = #[z]) (ht : Ybad.prog.underlying t = some (.slice e)) (hi0 : (Ybad.prog.info? e).map (fun i => (i.zero, i.size, i.bytes)) = some (some z, 1, by_)) (hby : by_ ≤ 8) (n : Nat) (hn : n ≤ 1024) (w : World) :
    (Instr.makeSlice t (.int .i64 (n : Int)) (.int .i64 (n : Int))).run Ybad.prog w = .ok (.slice (some ⟨w.heap.size, 0, none⟩) n n) (w.alloc (.cells (zeros z n) e)) := by
  obtain ⟨i0, hi, hz0, hzs, hz2⟩ := info_parts hi0
  have hb : (i0.bytes : Int) * (n : Int) ≤ 281474976710656 := by
    rw [hz2]
    have : (by_ : Int) * (n : Int) ≤ 8 * 1024 := Int.mul_le_mul (by omega) (by omega) (by omega) (by omega)
    omega
  have h := run_make (P := Ybad.prog) w t e i0 z ht hi hz0 .i64 .i64 (n : Int) (n : Int) (by omega) (by omega) hb (by omega)
  rw [h]
  simp [zeros, hzs, hz1]

theorem queued_any (nb : Nat) (q : Int) (p r v : Value) (f t : Int) (fr : Value) (ok : Bool) (w : World) (h : RowAt w nb 31 9 (nodeRow q p r v 0 f t fr ok)) :
    Calls Ybad.prog 38 #[.pointer (some ⟨nb, 0, none⟩)] w fun e w' => e = .returned (.int .i64 q) ∧ RowAt w' nb 31 9 (nodeRow q p r v 1 f t fr ok) ∧ Turned w w' (fun b => b = nb) := by
  have h4 := h.cell (show 4 < 9 by omega)
  have h0 := h.cell (show 0 < 9 by omega)
  have ff := h.frozen
  have hW := (h.set 4 (.int .i64 1) (by omega)).congr (g' := nodeRow q p r v 1 f t fr ok) (fun j hj => by unfold upd nodeRow; split <;> simp_all)
  have hT : Turned w (w.setCell ⟨nb, 4, none⟩ (.int .i64 1)) (fun b => b = nb) := (Turned.refl w (fun b => b = nb)).setCell ⟨nb, 4, none⟩ (.inl rfl) _
  have HW : Hid (RowAt (w.setCell ⟨nb, 4, none⟩ (.int .i64 1)) nb 31 9 (nodeRow q p r v 1 f t fr ok)) := hW
  have HT : Hid (Turned w (w.setCell ⟨nb, 4, none⟩ (.int .i64 1)) (fun b => b = nb)) := hT
  clear hW hT h
  simp only [nodeRow] at h4 h0
  simp at h4 h0
  go_enter Ybad.func38, Ybad.ntmps38
  go_wp2_with fail
  go_ret
  exact ⟨rfl, HW.out, HT.out⟩

theorem cell_add0 (w : World) (g : Nat) (u : Value) (hc : w.cell? ⟨g, 0, none⟩ = some u) : ∀ j v, [u][j]? = some v → w.cell? ((⟨g, 0, none⟩ : Addr).add j) = some v := by
  intro j v hv
  cases j with
  | zero => simp at hv; subst hv; simpa [Addr.add] using hc
  | succ j => simp at hv

/-- One element appended to nil: a new row. -/
theorem wpList_nil1 {w : World} {ops : Array Oper} {rest : List Oper} {o : Oper} {a : Act} {Q : Exit → Act → World → Prop} (hgd : o.guard = none) (s x : Operand) (t : TypeId)
    (ho : o.op = .call { callee := .builtin .append, args := #[s, x], argTypes := #[t, t] }) (e : TypeId) (z : Value) (by_ : Nat) (ht : Ybad.prog.underlying t = some (.slice e))
    (hi : (Ybad.prog.info? e).map (fun i => (i.zero, i.size, i.bytes)) = some (some z, 1, by_)) (hz : z.cells.size = 1) (hby : by_ ≤ 100)
    (hs : a.eval s = .slice none 0 0) (g : Nat) (u : Value) (hx : a.eval x = .slice (some ⟨g, 0, none⟩) 1 1) (hc : w.cell? ⟨g, 0, none⟩ = some u) (h1 : u.oneCell' = true)
    (h : ∀ b c w', w.heap.size ≤ b → w'.cell? ⟨b, 0, none⟩ = some u → b < w'.heap.size → Turned w w' (fun _ => False) → wpList Ybad.prog ops Q rest (a.put o.dst (.slice (some ⟨b, 0, none⟩) 1 c)) w') : wpList Ybad.prog ops Q (o :: rest) a w := by
  obtain ⟨i, h2, h3, h4, h5⟩ := info_parts hi
  refine wpList_append_own w hgd s x t ho w.heap.size e i z 1 by_ ht h2 h3 h4 h5 hz (by omega) _ 0 [] hs (World.ownsRow_nil w _ e 1) ⟨g, 0, none⟩ 1 1 [u] hx rfl (cell_add0 w g u hc) (by simpa using h1) (by unfold maxLen; omega) (by omega) (Nat.le_refl _) ?_
  intro v' w' hown hgr hne
  rcases hown.2 with ⟨_, h0⟩ | ⟨b, c, cur, rfl, hb, hg, _⟩
  · omega
  · refine h b c w' hb ?_ (Array.getElem?_eq_some_iff.1 hg).1 ⟨hgr.os, hgr.tape, hgr.output, hgr.size, fun k hk _ => hgr.block k hk (by simp [Value.ownBlock])⟩
    have := hown.cellAt 0 (by omega)
    simpa using this

theorem cell_new_at (w : World) (g : Nat) (u : Value) (e : TypeId) (hg : g = w.heap.size) : (w.alloc (.cells #[u] e)).cell? ⟨g, 0, none⟩ = some u := by subst hg; simp

theorem round_any (nb : Nat) (q : Int) (p : Value) (a f t r : Int) (ra : Option Addr) (rl rc : Nat) (fa : Option Addr) (fl fc : Nat) (ok : Bool) (w : World) (h : RowAt w nb 31 9 (nodeRow q p (.slice none 0 0) (.slice none 0 0) a f t (.slice fa fl fc) ok)) :
    Calls Ybad.prog 39 #[.pointer (some ⟨nb, 0, none⟩), .int .i64 r, .slice ra rl rc] w fun e w' => e = .returned (.tuple #[.agg #[.int .i64 f, .int .i64 t, .slice fa fl fc], .bool ok]) ∧
      ∃ xb xc yb yc, RowAt w' nb 31 9 (nodeRow q p (.slice (some ⟨xb, 0, none⟩) 1 xc) (.slice (some ⟨yb, 0, none⟩) 1 yc) a f t (.slice fa fl fc) ok) ∧ w'.cell? ⟨xb, 0, none⟩ = some (.int .i64 r) ∧ w'.cell? ⟨yb, 0, none⟩ = some (.slice ra rl rc) ∧ w.heap.size ≤ xb ∧ w.heap.size ≤ yb ∧ Turned w w' (fun b => b = nb) := by
  have h1 := h.alloc (.cells #[.int .i64 0, .int .i64 0, .slice none 0 0] 26)
  have k1 := row_lit w #[.int .i64 0, .int .i64 0, .slice none 0 0] 26 3 rfl (fun j => #[Value.int .i64 0, .int .i64 0, .slice none 0 0][j]!) (fun j hj => by
    have : j = 0 ∨ j = 1 ∨ j = 2 := by omega
    rcases this with rfl | rfl | rfl <;> rfl)
  have h2 := h.cell (show 2 < 9 by omega)
  simp [nodeRow] at h2
  have hlt := h.lt
  have T0 : Turned w (w.alloc (.cells #[.int .i64 0, .int .i64 0, .slice none 0 0] 26)) (fun b => b = nb) := (Turned.refl w _).alloc _
  have H1 : Hid (RowAt _ nb 31 9 _) := h1
  have K1 : Hid (RowAt _ w.heap.size 26 3 _) := k1
  have HT0 : Hid (Turned w _ (fun b => b = nb)) := T0
  clear h1 h k1 T0
  go_enter Ybad.func39, Ybad.ntmps39
  go_wp2_with (first
    | (at_builtin; refine wpList_nil1 rfl (.tmp 12) (.tmp 14) 22 rfl 3 (.int .i64 0) 8 Ybad.underlying22 info3 rfl (by omega) rfl _ (.int .i64 r) rfl ?c1 rfl ?c2; case c1 => simp
       intro xb xc w1 hxb hxc hxl hT1; have H1a := (hT1.row (H1.out.alloc _) (fun h => h)); have K1a := hT1.row (K1.out.alloc _) (fun h => h); have hlt1 := H1a.lt; have TA : Hid (Turned w _ (fun b => b = nb)) := ((HT0.out.alloc _).trans (hT1.mono (fun _ _ h => h.elim))); have q2 := H1a.cell (show 2 < 9 by omega); have q3 := H1a.cell (show 3 < 9 by omega); have qf := H1a.frozen; simp only [nodeRow] at q2 q3; simp at q2 q3 hxb)
    | (at_builtin; refine wpList_nil1 rfl (.tmp 22) (.tmp 24) 29 rfl 24 (.slice none 0 0) 24 Ybad.underlying29 info24 rfl (by omega) rfl _ (.slice ra rl rc) rfl ?d1 rfl ?d2; case d1 => exact cell_new_at _ _ _ _ (by simp)
       intro yb yc w2 hyb hyc hyl hT2; have H2a := (hT2.row ((H1a.set 2 (.slice (some ⟨xb, 0, none⟩) 1 xc) (by omega)).alloc _) (fun h => h)); have K2a := hT2.row ((K1a.other ⟨nb, 2, none⟩ (.slice (some ⟨xb, 0, none⟩) 1 xc) (show w.heap.size ≠ nb by omega)).alloc _) (fun h => h); have TB : Hid (Turned w _ (fun b => b = nb)) := (((TA.out.setCell ⟨nb, 2, none⟩ (.inl rfl) _).alloc _).trans (hT2.mono (fun _ _ h => h.elim))); have q3' := H2a.cell (show 3 < 9 by omega); have qf2 := H2a.frozen; simp only [nodeRow, upd] at q3'; simp at q3' hyb; have hxc2 := (hT2.block xb (by simp; omega) (fun h => h))))
  have H3 := (H2a.set 3 (.slice (some ⟨yb, 0, none⟩) 1 yc) (by omega)).congr (g' := nodeRow q p (.slice (some ⟨xb, 0, none⟩) 1 xc) (.slice (some ⟨yb, 0, none⟩) 1 yc) a f t (.slice fa fl fc) ok) (fun j hj => by
    have : j = 0 ∨ j = 1 ∨ j = 2 ∨ j = 3 ∨ j = 4 ∨ j = 5 ∨ j = 6 ∨ j = 7 ∨ j = 8 := by omega
    rcases this with rfl | rfl | rfl | rfl | rfl | rfl | rfl | rfl | rfl <;> rfl)
  have K3 := K2a.other ⟨nb, 3, none⟩ (.slice (some ⟨yb, 0, none⟩) 1 yc) (show w.heap.size ≠ nb by omega)
  have T3 := TB.out.setCell ⟨nb, 3, none⟩ (.inl rfl) (.slice (some ⟨yb, 0, none⟩) 1 yc)
  have X3 : (w2.setCell ⟨nb, 3, none⟩ (.slice (some ⟨yb, 0, none⟩) 1 yc)).cell? ⟨xb, 0, none⟩ = some (.int .i64 r) := by
    rw [World.cell?_of_block (Below.heap_setCell _ _ _ _ (show xb ≠ nb by omega)), World.cell?_of_block hxc2, World.cell?_of_block (Below.heap_alloc _ _ _ (by simp; exact hxl)), World.cell?_of_block (Below.heap_setCell _ _ _ _ (show xb ≠ nb by omega))]
    exact hxc
  have Y3 : (w2.setCell ⟨nb, 3, none⟩ (.slice (some ⟨yb, 0, none⟩) 1 yc)).cell? ⟨yb, 0, none⟩ = some (.slice ra rl rc) := by
    rw [World.cell?_of_block (Below.heap_setCell _ _ _ _ (show yb ≠ nb by omega))]
    exact hyc
  have hyb' : w.heap.size < yb := by have := TA.out.size; omega
  generalize (w2.setCell ⟨nb, 3, none⟩ (.slice (some ⟨yb, 0, none⟩) 1 yc)) = wz at H3 K3 T3 X3 Y3 ⊢
  clear hxc2 hyb q3' qf2 TB K2a H2a hT2 hyl hyc hxc hxl hT1 H1a K1a TA qf q2 q3 HT0 K1 H1 h2
  have c5 := H3.cell (show 5 < 9 by omega)
  have c6 := H3.cell (show 6 < 9 by omega)
  have c7 := H3.cell (show 7 < 9 by omega)
  have c8 := H3.cell (show 8 < 9 by omega)
  have d0 := K3.cell (show 0 < 3 by omega)
  have d1 := K3.cell (show 1 < 3 by omega)
  have d2 := K3.cell (show 2 < 3 by omega)
  have dF := K3.frozen
  simp [nodeRow] at c5 c6 c7 c8 d0 d1 d2
  have K4 := (((K3.set 0 (.int .i64 f) (by omega)).set 1 (.int .i64 t) (by omega)).set 2 (.slice fa fl fc) (by omega))
  have H4 := (((H3.other ⟨w.heap.size, 0, none⟩ (.int .i64 f) (show nb ≠ w.heap.size by omega)).other ⟨w.heap.size, 1, none⟩ (.int .i64 t) (show nb ≠ w.heap.size by omega)).other ⟨w.heap.size, 2, none⟩ (.slice fa fl fc) (show nb ≠ w.heap.size by omega))
  have T4 := (((T3.setCell ⟨w.heap.size, 0, none⟩ (.inr (Nat.le_refl _)) (.int .i64 f)).setCell ⟨w.heap.size, 1, none⟩ (.inr (Nat.le_refl _)) (.int .i64 t)).setCell ⟨w.heap.size, 2, none⟩ (.inr (Nat.le_refl _)) (.slice fa fl fc))
  have KH4 : Hid (RowAt _ w.heap.size 26 3 _) := K4
  have HH4 : Hid (RowAt _ nb 31 9 _) := H4
  have TH4 : Hid (Turned w _ (fun b => b = nb)) := T4
  clear K4 H4 T4 H3 K3 T3
  go_region
  all_goals go_wp2_with fail
  all_goals
    have k0 := KH4.out.cell (show 0 < 3 by omega)
    have k1 := KH4.out.cell (show 1 < 3 by omega)
    have k2 := KH4.out.cell (show 2 < 3 by omega)
    simp only [upd] at k0 k1 k2
    simp at k0 k1 k2
    refine bodyPost_ret (v := .tuple #[.agg #[.int .i64 f, .int .i64 t, .slice fa fl fc], .bool ok]) (by simp [results, Ybad.results39, go_sem, k0, k1, k2]) rfl ⟨rfl, xb, xc, yb, yc, HH4.out.drew, ?_, ?_, by omega, by omega, TH4.out.drew⟩
    · have hn : xb ≠ w.heap.size := by omega
      rw [World.cell?_drew, World.cell?_of_block (Below.heap_setCell _ _ _ _ hn), World.cell?_of_block (Below.heap_setCell _ _ _ _ hn), World.cell?_of_block (Below.heap_setCell _ _ _ _ hn)]
      exact X3
    · have hn : yb ≠ w.heap.size := by omega
      rw [World.cell?_drew, World.cell?_of_block (Below.heap_setCell _ _ _ _ hn), World.cell?_of_block (Below.heap_setCell _ _ _ _ hn), World.cell?_of_block (Below.heap_setCell _ _ _ _ hn)]
      exact Y3

theorem size5 : (Ybad.prog.info? 5).map (·.size) = some 1 := by kernel_rfl
theorem size3 : (Ybad.prog.info? 3).map (·.size) = some 1 := by kernel_rfl

theorem broadcast_any (nb : Nat) (q : Int) (hq : 0 ≤ q ∧ q < 10) (rv v : Value) (a f t : Int) (fr : Value) (ok : Bool) (B g n cap : Nat) (hn : n ≤ 100) (xs : List Value) (h1 : ∀ u ∈ xs, u.oneCell' = true) (w : World)
    (h : RowAt w nb 31 9 (nodeRow q (.slice none 0 0) rv v a f t fr ok)) (ho : w.ownsRow B 5 1 (.slice (some ⟨g, 0, none⟩) n cap) n xs) :
    Calls Ybad.prog 37 #[.pointer (some ⟨nb, 0, none⟩), .slice (some ⟨g, 0, none⟩) n cap] w fun e w' => e = .returned .nilIface ∧
      ∃ pb pc cb, RowAt w' nb 31 9 (nodeRow (q + 1) (.slice (some ⟨pb, 0, none⟩) 1 pc) rv v a f t fr ok) ∧ w'.cell? ⟨pb, 0, none⟩ = some (.slice (some ⟨cb, 0, none⟩) n n) ∧ w.heap.size ≤ pb ∧ w.heap.size ≤ cb ∧ cb ≠ pb ∧ w'.ownsRow w.heap.size 5 1 (.slice (some ⟨cb, 0, none⟩) n n) n xs ∧ Turned w w' (fun b => b = nb) := by
  have mk := mkInts 23 5 (.int .u8 0) 1 rfl Ybad.underlying23 info5 (by omega) n (by omega)
  have hxl : xs.length = n := by simpa using ho.1
  have hlt := h.lt
  have R1 := row_made w (.int .u8 0) n 5
  have S1 := (ho.alloc (.cells (zeros (.int .u8 0) n) 5)).cells rfl
  obtain ⟨w1, hcp, ho1, hT1, hz1⟩ := copyAll (w.alloc (.cells (zeros (.int .u8 0) n) 5)) 23 5 Ybad.underlying23 size5 w.heap.size n n (some ⟨g, 0, none⟩) cap _ R1 (by unfold maxLen; omega) xs hxl (.inr ⟨_, rfl, S1⟩) h1
  have H1a := hT1.row (h.alloc _) (show ¬ nb = w.heap.size by omega)
  have TA : Hid (Turned w w1 (fun b => b = nb)) := ((Turned.refl w _).alloc _).trans (hT1.mono (fun b _ e => .inr (by omega)))
  have q1 := H1a.cell (show 1 < 9 by omega)
  have q0 := H1a.cell (show 0 < 9 by omega)
  have qf := H1a.frozen
  simp only [nodeRow] at q1 q0
  simp at q1 q0 hz1
  have HZ1 : Hid (w1.heap.size = w.heap.size + 1) := hz1
  clear h R1 S1 hz1
  go_enter Ybad.func37, Ybad.ntmps37
  go_wp2_with (
       at_builtin; refine wpList_nil1 rfl (.tmp 16) (.tmp 18) 28 rfl 23 (.slice none 0 0) 24 Ybad.underlying28 info23 rfl (by omega) rfl _ (.slice (some ⟨w.heap.size, 0, none⟩) n n) rfl ?d1 rfl ?d2; case d1 => exact cell_new_at _ _ _ _ (by simp)
       intro pb pc w2 hpb hpc hpl hT2
       have H2a := hT2.row (H1a.alloc _) (fun h => h)
       have ho2 := hT2.own (ho1.alloc _) (fun _ _ h => h)
       have TB : Hid (Turned w w2 (fun b => b = nb)) := (TA.out.alloc _).trans (hT2.mono (fun _ _ h => h.elim))
       have r1 := H2a.cell (show 1 < 9 by omega)
       have r0 := H2a.cell (show 0 < 9 by omega)
       have rf := H2a.frozen
       simp only [nodeRow] at r1 r0
       simp at r1 r0 hpb)
  have e1 := HZ1.out
  have n1 : pb ≠ nb := by omega
  have n2 : w.heap.size ≠ nb := by omega
  go_ret
  refine ⟨rfl, pb, pc, w.heap.size, ((H2a.set 1 _ (by omega)).set 0 _ (by omega)).congr (fun j hj => ?_), ?_, by omega, Nat.le_refl _, by omega, ?_, (TB.out.setCell ⟨nb, 1, none⟩ (.inl rfl) _).setCell ⟨nb, 0, none⟩ (.inl rfl) _⟩
  · have : j = 0 ∨ j = 1 ∨ j = 2 ∨ j = 3 ∨ j = 4 ∨ j = 5 ∨ j = 6 ∨ j = 7 ∨ j = 8 := by omega
    rcases this with rfl | rfl | rfl | rfl | rfl | rfl | rfl | rfl | rfl <;> rfl
  · rw [World.cell?_of_block (Below.heap_setCell _ _ _ _ n1), World.cell?_of_block (Below.heap_setCell _ _ _ _ n1)]
    exact hpc
  · exact (((Turned.refl w2 (fun b => b = nb)).setCell ⟨nb, 1, none⟩ (.inl rfl) _).setCell ⟨nb, 0, none⟩ (.inl rfl) _).own ho2 (fun k hk => by simp [Value.ownBlock] at hk; omega)
end Go.Proofs.YbulkcruiDoor
