/- Ranging over the map of the others; the lists that are filled. -/
import Derived.Test.YbulkcrkqAdd
import Derived.Maps.RangeRun
namespace Go.Proofs.Ybulkcrkq
open Go.ChangeShapes Go.WideShapes Go.ChangeAt Go.RowKit
set_option maxHeartbeats 1000000
set_option maxRecDepth 20000
set_option linter.unusedVariables false

/-- Block r is an iterator over the map in block m, n entries old, which has handed out the entries sn. -/
def Iter (w : World) (r m n : Nat) (sn : List Nat) : Prop := w.heap[r]? = some (.mapIter (some m) n sn.toArray n)

/-- How many are still to come. -/
def iterLeft (n r : Nat) (w : World) : Nat := match w.heap[r]? with | some (.mapIter _ _ s _) => n - s.size | _ => 0

theorem Iter.left {w : World} {r m n : Nat} {sn : List Nat} (h : Iter w r m n sn) : iterLeft n r w = n - sn.length := by
  unfold Iter at h
  unfold iterLeft
  rw [h]
  simp

theorem Iter.turned {w w' : World} {r m n : Nat} {sn : List Nat} {T : Nat → Prop} (h : Iter w r m n sn) (hT : Turned w w' T) (hr : ¬ T r) : Iter w' r m n sn :=
  (hT.block r (Array.getElem?_eq_some_iff.1 h).1 hr).trans h

theorem Iter.lt {w : World} {r m n : Nat} {sn : List Nat} (h : Iter w r m n sn) : r < w.heap.size := (Array.getElem?_eq_some_iff.1 h).1

theorem iter_range {w : World} {m : Nat} {ks : List (Option Addr)} {v : Option Addr → Int × Int} (hm : MapIs w m ks v) : (Instr.range 92 (.map (some m))).run Yba.prog w = .ok (.pointer (some ⟨w.heap.size, 0, none⟩)) (w.alloc (.mapIter (some m) ks.length #[] ks.length)) := by
  obtain ⟨es, hb, _⟩ := hm.block
  exact run_range_map w 92 23 99 m es ks.length Yba.underlying92 hb

theorem iter_new (w : World) (m n : Nat) : Iter (w.alloc (.mapIter (some m) n #[] n)) w.heap.size m n [] := heap_alloc_new w _

theorem turned_setBlock (w : World) (r : Nat) (o : Obj) : Turned w (ChangeMaps.setBlock w r o) (fun b => b = r) :=
  ⟨rfl, rfl, rfl, by simp [ChangeMaps.setBlock], fun b hb hne => by simp [ChangeMaps.setBlock, Ne.symm hne]⟩

theorem iter_next {w : World} {r m : Nat} {ks : List (Option Addr)} {v : Option Addr → Int × Int} {sn : List Nat} (hit : Iter w r m ks.length sn) (hm : MapIs w m ks v) (hrm : r ≠ m) (ty : TypeId) :
    ((∀ j, j < ks.length → j ∈ sn) ∧ (Instr.next (.pointer (some ⟨r, 0, none⟩)) false ty).run Yba.prog w = .ok (.tuple #[.bool false]) w) ∨
    ∃ j k w', ks[j]? = some k ∧ j ∉ sn ∧ (Instr.next (.pointer (some ⟨r, 0, none⟩)) false ty).run Yba.prog w = .ok (.tuple #[.bool true, .pointer k, .agg #[.int .u8 (v k).1, .int .i32 (v k).2]]) w' ∧
      (Instr.entry (.pointer (some ⟨r, 0, none⟩))).run Yba.prog w' = .ok (.tuple #[.pointer k, .agg #[.int .u8 (v k).1, .int .i32 (v k).2]]) w' ∧ Iter w' r m ks.length (sn ++ [j]) ∧ Turned w w' (fun b => b = r) := by
  obtain ⟨es, hb, hes⟩ := hm.block
  have hmem : ∀ x ∈ es.toList, ∃ j k, ks[j]? = some k ∧ x = ent v j k := by
    intro x hx
    obtain ⟨j, hj⟩ := List.getElem?_of_mem hx
    have h := hes j
    rw [Array.getElem?_toList] at hj
    rw [hj] at h
    cases hk : ks[j]? with
    | none => rw [hk] at h; cases h
    | some k => rw [hk] at h; exact ⟨j, k, hk, Option.some.inj h⟩
  have hold : ∀ x ∈ es.toList, x.born < ks.length := by
    intro x hx
    obtain ⟨j, k, hk, rfl⟩ := hmem x hx
    exact (List.getElem?_eq_some_iff.1 hk).1
  rcases run_next_at (P := Yba.prog) w ty r m ks.length ks.length sn.toArray es ks.length hit hb hold (Nat.le_refl _) with ⟨h0, hr⟩ | ⟨e, he, w1, hw1, hr⟩
  · refine .inl ⟨fun j hj => ?_, hr⟩
    have hk : ks[j]? = some ks[j] := by simp [hj]
    have hej : es[j]? = some (ent v j ks[j]) := by rw [hes j, hk]; rfl
    by_cases hs : j ∈ sn
    · exact hs
    · exfalso
      have hin : ent v j ks[j] ∈ leftOf es sn.toArray := by
        unfold leftOf
        rw [Array.mem_filter]
        refine ⟨Array.mem_of_getElem? hej, ?_⟩
        simp [ent, hs]
      have : leftOf es sn.toArray = #[] := Array.eq_empty_of_size_eq_zero h0
      rw [this] at hin
      simp at hin
  · refine .inr ?_
    have hel : e ∈ leftOf es sn.toArray := by simpa using he
    unfold leftOf at hel
    rw [Array.mem_filter] at hel
    obtain ⟨hee, hns⟩ := hel
    obtain ⟨j, k, hk, rfl⟩ := hmem e (by simpa using hee)
    have hjs : j ∉ sn := by simpa [ent] using hns
    have T1 : Turned w w1 (fun b => b = r) := by
      rcases hw1 with rfl | rfl
      · exact Turned.refl _ _
      · exact (Turned.refl _ _).drew
    have T2 := T1.trans ((turned_setBlock w1 r (.mapIter (some m) ks.length (sn.toArray.push j) ks.length)).mono (fun b _ h => .inl h))
    have hr1 : r < w1.heap.size := Nat.lt_of_lt_of_le hit.lt T1.size
    have hrb : (ChangeMaps.setBlock w1 r (.mapIter (some m) ks.length (sn.toArray.push j) ks.length)).heap[r]? = some (.mapIter (some m) ks.length (sn.toArray.push j) ks.length) := by
      simp [ChangeMaps.setBlock, hr1]
    have hmb : (ChangeMaps.setBlock w1 r (.mapIter (some m) ks.length (sn.toArray.push j) ks.length)).heap[m]? = some (.map es ks.length) := (T2.block m hm.lt (fun h => hrm h.symm)).trans hb
    have hnd : (es.toList.map (·.born)).Nodup := by
      have hb2 : es.toList.map (·.born) = List.range ks.length := by
        apply List.ext_getElem?
        intro i
        rw [List.getElem?_map, Array.getElem?_toList, hes i]
        by_cases hi : i < ks.length
        · simp [hi, ent]
        · simp [hi]
      rw [hb2]
      exact List.nodup_range
    refine ⟨j, k, _, hk, hjs, hr, run_entry_at (P := Yba.prog) _ r m ks.length sn.toArray es ks.length (ent v j k) hrb hmb (by simpa using hee) hnd, ?_, T2⟩
    exact hrb.trans (by simp)

/-- The pointer to a core. -/
def cptr (c : Nat) : Value := .pointer (some ⟨c, 0, none⟩)

/-- The lists by mode, none of them with a tree yet: list m holds the cores ls m. Their rows lie in blocks of P from base on. -/
def TxnsAt (w : World) (L base : Nat) (P : Nat → Prop) (ls : Nat → List Nat) : Prop :=
  ∃ (g : Nat → Value) (vv : Nat → Value), RowAt w L 124 24 g ∧ (∀ m, m < 6 → g (4 * m) = vv m ∧ g (4 * m + 1) = .slice none 0 0 ∧ w.ownsRow base 23 1 (vv m) (ls m).length ((ls m).map cptr) ∧ (vv m).ownBlock ≠ some L ∧ ∀ k, (vv m).ownBlock = some k → P k) ∧
    (∀ m m' k, m < 6 → m' < 6 → m ≠ m' → (vv m).ownBlock = some k → (vv m').ownBlock ≠ some k)

/-- The lists with c added to list m. -/
def addL (ls : Nat → List Nat) (m c : Nat) (i : Nat) : List Nat := if i = m then ls m ++ [c] else ls i

theorem TxnsAt.turned {w w' : World} {L base : Nat} {P : Nat → Prop} {ls : Nat → List Nat} {T : Nat → Prop} (h : TxnsAt w L base P ls) (hT : Turned w w' T) (h1 : ¬ T L) (h2 : ∀ b, base ≤ b → P b → ¬ T b) : TxnsAt w' L base P ls := by
  obtain ⟨g, vv, hR, ha, hd⟩ := h
  exact ⟨g, vv, hT.row hR h1, fun m hm => ⟨(ha m hm).1, (ha m hm).2.1, (ha m hm).2.2.1.turned hT (fun k hk => h2 k ((ha m hm).2.2.1.lt k hk).1 ((ha m hm).2.2.2.2 k hk)), (ha m hm).2.2.2⟩, hd⟩

theorem TxnsAt.raise {w : World} {L base : Nat} {P : Nat → Prop} {ls : Nat → List Nat} (h : TxnsAt w L base P ls) : TxnsAt w L base (fun b => b < w.heap.size) ls := by
  obtain ⟨g, vv, hR, ha, hd⟩ := h
  exact ⟨g, vv, hR, fun m hm => ⟨(ha m hm).1, (ha m hm).2.1, (ha m hm).2.2.1, (ha m hm).2.2.2.1, fun k hk => ((ha m hm).2.2.1.lt k hk).2⟩, hd⟩

theorem txns_add {w : World} {L base : Nat} {P : Nat → Prop} {ls : Nat → List Nat} (h : TxnsAt w L base P ls) (hb : base ≤ w.heap.size) (m c : Nat) (hm : m < 6) (hn : (ls m).length ≤ 1000) :
    Calls Yba.prog 30 #[.pointer (some ⟨L, 4 * m, none⟩), .pointer (some ⟨c, 0, none⟩)] w fun e w' => e = .returned (.int .i32 ((ls m).length : Nat)) ∧ TxnsAt w' L base (fun b => P b ∨ w.heap.size ≤ b) (addL ls m c) ∧ Turned w w' (fun b => b = L ∨ (base ≤ b ∧ P b)) := by
  obtain ⟨g, vv, hR, ha, hd⟩ := h
  obtain ⟨a1, a2, a3, a4, a5⟩ := ha m hm
  refine (add_any L (4 * m) 124 24 base (ls m).length g (vv m) _ ⟨c, 0, none⟩ hn (by omega) w hR a1 a2 a3 hb a4).mono ?_
  rintro e w' ⟨rfl, k, cap, hR', ho', hT, hk, hkL⟩
  refine ⟨rfl, ⟨_, upd vv m (.slice (some ⟨k, 0, none⟩) ((ls m).length + 1) cap), hR', fun i hi => ?_, ?_⟩, hT.mono (fun b _ h => h.imp id (fun h => ⟨(a3.lt b h).1, a5 b h⟩))⟩
  · by_cases e : i = m
    · subst e
      refine ⟨by rw [upd_same, upd_same], by rw [upd_other _ _ _ (by omega)]; exact a2, ?_, by rw [upd_same]; simp [Value.ownBlock]; exact hkL, fun j hj => ?_⟩
      rotate_left
      · rw [upd_same] at hj
        simp [Value.ownBlock] at hj
        subst hj
        exact hk.imp (a5 _) id
      rw [upd_same]
      have : addL ls i c i = ls i ++ [c] := by simp [addL]
      rw [this, List.length_append, List.map_append]
      exact ho'
    · obtain ⟨b1, b2, b3, b4, b5⟩ := ha i hi
      have : addL ls m c i = ls i := by simp [addL, e]
      rw [this, upd_other _ _ _ (show i ≠ m from e), upd_other _ _ _ (by omega), upd_other _ _ _ (by omega)]
      refine ⟨b1, b2, b3.turned hT (fun j hj h => ?_), b4, fun j hj => .inl (b5 j hj)⟩
      rcases h with rfl | h
      · exact b4 hj
      · exact hd i m j hi hm e hj h
  · intro i i' j hi hi' hne hj hj'
    by_cases e : i = m
    · subst e
      rw [upd_same] at hj
      rw [upd_other _ _ _ (Ne.symm hne)] at hj'
      simp [Value.ownBlock] at hj
      subst hj
      rcases hk with hk | hk
      · exact hd i i' _ hi hi' hne hk hj'
      · have := ((ha i' hi').2.2.1.lt _ hj').2
        omega
    · rw [upd_other _ _ _ (show i ≠ m from e)] at hj
      by_cases e' : i' = m
      · subst e'
        rw [upd_same] at hj'
        simp [Value.ownBlock] at hj'
        subst hj'
        rcases hk with hk | hk
        · exact hd i i' _ hi hi' hne hj hk
        · have := ((ha i hi).2.2.1.lt _ hj).2
          omega
      · rw [upd_other _ _ _ (show i' ≠ m from e')] at hj'
        exact hd i i' j hi hi' hne hj hj'
end Go.Proofs.Ybulkcrkq
