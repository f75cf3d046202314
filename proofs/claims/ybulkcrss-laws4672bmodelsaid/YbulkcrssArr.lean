/- LawS4672BModel: the six arrays that its first loop fills. -/
import Derived.Test.YbulkcrssHeld
import Derived.Deep.DeepCutAuto
namespace Go.Proofs.Ybulkcrss
open Go.ChangeShapes Go.WideShapes Go.ChangeAt Go.RowKit
set_option maxHeartbeats 400000
set_option maxRecDepth 20000
set_option linter.unusedVariables false

/-- A row of n cells whose first k hold f. -/
def Filled (w : World) (b : Nat) (e : TypeId) (n k : Nat) (f : Nat → Value) : Prop := ∃ g, RowAt w b e n g ∧ ∀ i, i < k → g i = f i

theorem Filled.cell {w : World} {b : Nat} {e : TypeId} {n k : Nat} {f : Nat → Value} (h : Filled w b e n k f) (hk : k ≤ n) {i : Nat} (hi : i < k) : w.cell? ⟨b, i, none⟩ = some (f i) := by
  obtain ⟨g, hR, hg⟩ := h
  rw [hR.cell (by omega), hg i hi]
theorem Filled.frozen {w : World} {b : Nat} {e : TypeId} {n k : Nat} {f : Nat → Value} (h : Filled w b e n k f) (i : Nat) : w.frozen? ⟨b, i, none⟩ = false := by
  obtain ⟨g, hR, hg⟩ := h
  exact hR.frozen i
theorem Filled.any {w : World} {b : Nat} {e : TypeId} {n k : Nat} {f : Nat → Value} (h : Filled w b e n k f) {i : Nat} (hi : i < n) : ∃ v, w.cell? ⟨b, i, none⟩ = some v := by
  obtain ⟨g, hR, hg⟩ := h
  exact ⟨_, hR.cell hi⟩
theorem Filled.lt {w : World} {b : Nat} {e : TypeId} {n k : Nat} {f : Nat → Value} (h : Filled w b e n k f) : b < w.heap.size := by
  obtain ⟨g, hR, hg⟩ := h
  exact hR.lt
theorem Filled.of_block {w w' : World} {b : Nat} {e : TypeId} {n k : Nat} {f : Nat → Value} (h : Filled w b e n k f) (hb : w'.heap[b]? = w.heap[b]?) : Filled w' b e n k f := by
  obtain ⟨g, hR, hg⟩ := h
  exact ⟨g, hR.of_block hb, hg⟩
theorem Filled.other {w : World} {b : Nat} {e : TypeId} {n k : Nat} {f : Nat → Value} (h : Filled w b e n k f) (a : Addr) (v : Value) (hne : b ≠ a.block) : Filled (w.setCell a v) b e n k f :=
  h.of_block (Below.heap_setCell w a v b hne)
theorem Filled.step {w : World} {b : Nat} {e : TypeId} {n k : Nat} {f : Nat → Value} (h : Filled w b e n k f) (hk : k < n) {v : Value} (hv : v = f k) : Filled (w.setCell ⟨b, k, none⟩ v) b e n (k + 1) f := by
  obtain ⟨g, hR, hg⟩ := h
  refine ⟨_, hR.set k v hk, fun i hi => ?_⟩
  by_cases e : i = k
  · subst e; simp [upd, hv]
  · simp [upd, e, hg i (by omega)]
theorem Filled.row {w : World} {b : Nat} {e : TypeId} {n : Nat} {f : Nat → Value} (h : Filled w b e n n f) : RowAt w b e n f := by
  obtain ⟨g, hR, hg⟩ := h
  exact hR.congr hg
theorem filled_zero {w : World} {b : Nat} {e : TypeId} {n : Nat} {g : Nat → Value} (h : RowAt w b e n g) (f : Nat → Value) : Filled w b e n 0 f := ⟨g, h, fun i hi => by omega⟩

/-- The events: of the first k the key's number is kn. -/
def Evs (w : World) (b n k : Nat) (kn : Nat → Int) : Prop := ∃ g, RowAt w b 43 (n * 16) g ∧ ∀ i, i < k → g (i * 16 + 10) = .int .i64 (kn i)

theorem Evs.of_block {w w' : World} {b n k : Nat} {kn : Nat → Int} (h : Evs w b n k kn) (hb : w'.heap[b]? = w.heap[b]?) : Evs w' b n k kn := by
  obtain ⟨g, hR, hg⟩ := h
  exact ⟨g, hR.of_block hb, hg⟩
theorem Evs.other {w : World} {b n k : Nat} {kn : Nat → Int} (h : Evs w b n k kn) (a : Addr) (v : Value) (hne : b ≠ a.block) : Evs (w.setCell a v) b n k kn :=
  h.of_block (Below.heap_setCell w a v b hne)
theorem Evs.lt {w : World} {b n k : Nat} {kn : Nat → Int} (h : Evs w b n k kn) : b < w.heap.size := by
  obtain ⟨g, hR, hg⟩ := h
  exact hR.lt

/-- The six arrays: below, depth and jump filled up to x, events and keys up to y, reachers up to z. -/
structure AS (w0 : World) (n : Nat) (bl kn rc : Nat → Int) (eb kb bb db jb cb x y z : Nat) (w : World) : Prop where
  ev : Evs w eb n y kn
  ky : Filled w kb 3 n y (fun i => .int .i64 (kn i))
  bel : Filled w bb 21 n x (fun i => .int .i32 (bl i))
  dep : Filled w db 21 n x (fun i => .int .i32 (dp bl i))
  jmp : Filled w jb 21 n x (fun i => .int .i32 (jp bl i))
  rch : Filled w cb 21 n z (fun i => .int .i32 (rc i))
  o1 : w0.heap.size ≤ eb
  o2 : eb < kb ∧ kb < bb ∧ bb < db ∧ db < jb ∧ jb < cb
  bw : Below w0.heap.size w0 w

theorem AS.line {w0 w : World} {n : Nat} {bl kn rc : Nat → Int} {eb kb bb db jb cb x y z : Nat} (h : AS w0 n bl kn rc eb kb bb db jb cb x y z w) (hx : x < n) {v1 v2 v3 : Int} (h1 : v1 = bl x) (h2 : v2 = dp bl x) (h3 : v3 = jp bl x) :
    AS w0 n bl kn rc eb kb bb db jb cb (x + 1) y z (((w.setCell ⟨bb, x, none⟩ (.int .i32 v1)).setCell ⟨db, x, none⟩ (.int .i32 v2)).setCell ⟨jb, x, none⟩ (.int .i32 v3)) := by
  obtain ⟨o1, o2, o3, o4, o5⟩ := h.o2
  have l := h.o1
  refine ⟨((h.ev.other _ _ (by simp; omega)).other _ _ (by simp; omega)).other _ _ (by simp; omega), ((h.ky.other _ _ (by simp; omega)).other _ _ (by simp; omega)).other _ _ (by simp; omega), ((h.bel.step hx (by rw [h1])).other _ _ (by simp; omega)).other _ _ (by simp; omega),
    ((h.dep.other _ _ (by simp; omega)).step hx (by rw [h2])).other _ _ (by simp; omega), ((h.jmp.other _ _ (by simp; omega)).other _ _ (by simp; omega)).step hx (by rw [h3]), ((h.rch.other _ _ (by simp; omega)).other _ _ (by simp; omega)).other _ _ (by simp; omega), h.o1, h.o2, ?_⟩
  exact ((h.bw.setCell (by simp; omega) _).setCell (by simp; omega) _).setCell (by simp; omega) _

/-- keys[x] and events[x] are stored. -/
theorem AS.evs {w0 w : World} {n : Nat} {bl kn rc : Nat → Int} {eb kb bb db jb cb y x z : Nat} (h : AS w0 n bl kn rc eb kb bb db jb cb y x z w) (hx : x < n) {u : Int} (hu : u = kn x) (v0 v1 v2 v3 v4 v5 v6 v7 v8 v9 v10 v11 v12 v13 v14 v15 : Value) (h10 : v10 = .int .i64 (kn x)) :
    AS w0 n bl kn rc eb kb bb db jb cb y (x + 1) z (((((((((((((((((w.setCell ⟨kb, x, none⟩ (.int .i64 u)).setCell ⟨eb, x * 16, none⟩ v0).setCell ⟨eb, x * 16 + 1, none⟩ v1).setCell ⟨eb, x * 16 + 2, none⟩ v2).setCell ⟨eb, x * 16 + 3, none⟩ v3).setCell ⟨eb, x * 16 + 4, none⟩ v4).setCell ⟨eb, x * 16 + 5, none⟩ v5).setCell ⟨eb, x * 16 + 6, none⟩ v6).setCell ⟨eb, x * 16 + 7, none⟩ v7).setCell ⟨eb, x * 16 + 8, none⟩ v8).setCell ⟨eb, x * 16 + 9, none⟩ v9).setCell ⟨eb, x * 16 + 10, none⟩ v10).setCell ⟨eb, x * 16 + 11, none⟩ v11).setCell ⟨eb, x * 16 + 12, none⟩ v12).setCell ⟨eb, x * 16 + 13, none⟩ v13).setCell ⟨eb, x * 16 + 14, none⟩ v14).setCell ⟨eb, x * 16 + 15, none⟩ v15) := by
  obtain ⟨o1, o2, o3, o4, o5⟩ := h.o2
  have l := h.o1
  obtain ⟨g, hg, hk⟩ := h.ev
  have hne : ∀ {b : Nat}, b ≠ kb → b ≠ eb → (((((((((((((((((w.setCell ⟨kb, x, none⟩ (.int .i64 u)).setCell ⟨eb, x * 16, none⟩ v0).setCell ⟨eb, x * 16 + 1, none⟩ v1).setCell ⟨eb, x * 16 + 2, none⟩ v2).setCell ⟨eb, x * 16 + 3, none⟩ v3).setCell ⟨eb, x * 16 + 4, none⟩ v4).setCell ⟨eb, x * 16 + 5, none⟩ v5).setCell ⟨eb, x * 16 + 6, none⟩ v6).setCell ⟨eb, x * 16 + 7, none⟩ v7).setCell ⟨eb, x * 16 + 8, none⟩ v8).setCell ⟨eb, x * 16 + 9, none⟩ v9).setCell ⟨eb, x * 16 + 10, none⟩ v10).setCell ⟨eb, x * 16 + 11, none⟩ v11).setCell ⟨eb, x * 16 + 12, none⟩ v12).setCell ⟨eb, x * 16 + 13, none⟩ v13).setCell ⟨eb, x * 16 + 14, none⟩ v14).setCell ⟨eb, x * 16 + 15, none⟩ v15).heap[b]? = w.heap[b]? := by
    intro b h1 h2
    rw [Below.heap_setCell _ _ _ _ (by simpa using h2)]
    rw [Below.heap_setCell _ _ _ _ (by simpa using h2)]
    rw [Below.heap_setCell _ _ _ _ (by simpa using h2)]
    rw [Below.heap_setCell _ _ _ _ (by simpa using h2)]
    rw [Below.heap_setCell _ _ _ _ (by simpa using h2)]
    rw [Below.heap_setCell _ _ _ _ (by simpa using h2)]
    rw [Below.heap_setCell _ _ _ _ (by simpa using h2)]
    rw [Below.heap_setCell _ _ _ _ (by simpa using h2)]
    rw [Below.heap_setCell _ _ _ _ (by simpa using h2)]
    rw [Below.heap_setCell _ _ _ _ (by simpa using h2)]
    rw [Below.heap_setCell _ _ _ _ (by simpa using h2)]
    rw [Below.heap_setCell _ _ _ _ (by simpa using h2)]
    rw [Below.heap_setCell _ _ _ _ (by simpa using h2)]
    rw [Below.heap_setCell _ _ _ _ (by simpa using h2)]
    rw [Below.heap_setCell _ _ _ _ (by simpa using h2)]
    rw [Below.heap_setCell _ _ _ _ (by simpa using h2)]
    rw [Below.heap_setCell _ _ _ _ (by simpa using h1)]
  refine ⟨?_, ?_, h.bel.of_block (hne (by omega) (by omega)), h.dep.of_block (hne (by omega) (by omega)), h.jmp.of_block (hne (by omega) (by omega)), h.rch.of_block (hne (by omega) (by omega)), h.o1, h.o2, ?_⟩
  · refine ⟨_, (((((((((((((((((hg.other ⟨kb, x, none⟩ (.int .i64 u) (by simp; omega)).set (x * 16) v0 (by omega)).set (x * 16 + 1) v1 (by omega)).set (x * 16 + 2) v2 (by omega)).set (x * 16 + 3) v3 (by omega)).set (x * 16 + 4) v4 (by omega)).set (x * 16 + 5) v5 (by omega)).set (x * 16 + 6) v6 (by omega)).set (x * 16 + 7) v7 (by omega)).set (x * 16 + 8) v8 (by omega)).set (x * 16 + 9) v9 (by omega)).set (x * 16 + 10) v10 (by omega)).set (x * 16 + 11) v11 (by omega)).set (x * 16 + 12) v12 (by omega)).set (x * 16 + 13) v13 (by omega)).set (x * 16 + 14) v14 (by omega)).set (x * 16 + 15) v15 (by omega)), fun i hi => ?_⟩
    by_cases e : i = x
    · subst e
      simp [upd, h10]
    · have hh := hk i (by omega)
      rw [upd_other _ _ _ (by omega)]
      rw [upd_other _ _ _ (by omega)]
      rw [upd_other _ _ _ (by omega)]
      rw [upd_other _ _ _ (by omega)]
      rw [upd_other _ _ _ (by omega)]
      rw [upd_other _ _ _ (by omega)]
      rw [upd_other _ _ _ (by omega)]
      rw [upd_other _ _ _ (by omega)]
      rw [upd_other _ _ _ (by omega)]
      rw [upd_other _ _ _ (by omega)]
      rw [upd_other _ _ _ (by omega)]
      rw [upd_other _ _ _ (by omega)]
      rw [upd_other _ _ _ (by omega)]
      rw [upd_other _ _ _ (by omega)]
      rw [upd_other _ _ _ (by omega)]
      rw [upd_other _ _ _ (by omega)]
      exact hh
  · refine (h.ky.step hx (v := .int .i64 u) (by rw [hu])).of_block ?_
    rw [Below.heap_setCell _ _ _ _ (by simp; omega)]
    rw [Below.heap_setCell _ _ _ _ (by simp; omega)]
    rw [Below.heap_setCell _ _ _ _ (by simp; omega)]
    rw [Below.heap_setCell _ _ _ _ (by simp; omega)]
    rw [Below.heap_setCell _ _ _ _ (by simp; omega)]
    rw [Below.heap_setCell _ _ _ _ (by simp; omega)]
    rw [Below.heap_setCell _ _ _ _ (by simp; omega)]
    rw [Below.heap_setCell _ _ _ _ (by simp; omega)]
    rw [Below.heap_setCell _ _ _ _ (by simp; omega)]
    rw [Below.heap_setCell _ _ _ _ (by simp; omega)]
    rw [Below.heap_setCell _ _ _ _ (by simp; omega)]
    rw [Below.heap_setCell _ _ _ _ (by simp; omega)]
    rw [Below.heap_setCell _ _ _ _ (by simp; omega)]
    rw [Below.heap_setCell _ _ _ _ (by simp; omega)]
    rw [Below.heap_setCell _ _ _ _ (by simp; omega)]
    rw [Below.heap_setCell _ _ _ _ (by simp; omega)]
  · exact (((((((((((((((((h.bw.setCell (p := ⟨kb, x, none⟩) (by simp; omega) (.int .i64 u)).setCell (p := ⟨eb, x * 16, none⟩) l v0).setCell (p := ⟨eb, x * 16 + 1, none⟩) l v1).setCell (p := ⟨eb, x * 16 + 2, none⟩) l v2).setCell (p := ⟨eb, x * 16 + 3, none⟩) l v3).setCell (p := ⟨eb, x * 16 + 4, none⟩) l v4).setCell (p := ⟨eb, x * 16 + 5, none⟩) l v5).setCell (p := ⟨eb, x * 16 + 6, none⟩) l v6).setCell (p := ⟨eb, x * 16 + 7, none⟩) l v7).setCell (p := ⟨eb, x * 16 + 8, none⟩) l v8).setCell (p := ⟨eb, x * 16 + 9, none⟩) l v9).setCell (p := ⟨eb, x * 16 + 10, none⟩) l v10).setCell (p := ⟨eb, x * 16 + 11, none⟩) l v11).setCell (p := ⟨eb, x * 16 + 12, none⟩) l v12).setCell (p := ⟨eb, x * 16 + 13, none⟩) l v13).setCell (p := ⟨eb, x * 16 + 14, none⟩) l v14).setCell (p := ⟨eb, x * 16 + 15, none⟩) l v15)

/-- reacher[x] is stored. -/
theorem AS.reach {w0 w : World} {n : Nat} {bl kn rc : Nat → Int} {eb kb bb db jb cb y z x : Nat} (h : AS w0 n bl kn rc eb kb bb db jb cb y z x w) (hx : x < n) {u : Int} (hu : u = rc x) :
    AS w0 n bl kn rc eb kb bb db jb cb y z (x + 1) (w.setCell ⟨cb, x, none⟩ (.int .i32 u)) := by
  obtain ⟨o1, o2, o3, o4, o5⟩ := h.o2
  have l := h.o1
  exact ⟨h.ev.other _ _ (by simp; omega), h.ky.other _ _ (by simp; omega), h.bel.other _ _ (by simp; omega), h.dep.other _ _ (by simp; omega), h.jmp.other _ _ (by simp; omega), h.rch.step hx (by rw [hu]), h.o1, h.o2, h.bw.setCell (by simp; omega) _⟩

theorem AS.below {w0 w w' : World} {n : Nat} {bl kn rc : Nat → Int} {eb kb bb db jb cb x y z : Nat} (h : AS w0 n bl kn rc eb kb bb db jb cb x y z w) (hw : Below w.heap.size w w') : AS w0 n bl kn rc eb kb bb db jb cb x y z w' :=
  ⟨h.ev.of_block (hw.block _ h.ev.lt), h.ky.of_block (hw.block _ h.ky.lt), h.bel.of_block (hw.block _ h.bel.lt), h.dep.of_block (hw.block _ h.dep.lt), h.jmp.of_block (hw.block _ h.jmp.lt), h.rch.of_block (hw.block _ h.rch.lt), h.o1, h.o2, h.bw.trans (hw.mono h.bw.size)⟩

/-- The room and the graph that the law makes of the filled arrays. -/
theorem graph_made {w0 w : World} {n : Nat} {bl kn rc : Nat → Int} {eb kb bb db jb cb : Nat} (h : AS w0 n bl kn rc eb kb bb db jb cb n n n w) (R G : Array Value)
    (r4 : R[4]? = some (.slice (some ⟨eb, 0, none⟩) n n)) (g1 : G[1]? = some (.pointer (some ⟨w.heap.size, 0, none⟩))) (g5 : G[5]? = some (.slice (some ⟨bb, 0, none⟩) n n)) (g6 : G[6]? = some (.slice (some ⟨db, 0, none⟩) n n))
    (g7 : G[7]? = some (.slice (some ⟨jb, 0, none⟩) n n)) (g8 : G[8]? = some (.slice (some ⟨cb, 0, none⟩) n n)) :
    Graph ((w.alloc (.cells R 65)).alloc (.cells G 72)) n bl kn rc (w.heap.size + 1) w.heap.size eb cb bb db jb := by
  have hw : Below w.heap.size w ((w.alloc (.cells R 65)).alloc (.cells G 72)) := ((Below.refl _ _).alloc (Nat.le_refl _) _).alloc (by simp) _
  have h2 := h.below hw
  have hG : ∀ j, ((w.alloc (.cells R 65)).alloc (.cells G 72)).cell? ⟨w.heap.size + 1, j, none⟩ = G[j]? := fun j => by
    simp
  have hR : ∀ j, ((w.alloc (.cells R 65)).alloc (.cells G 72)).cell? ⟨w.heap.size, j, none⟩ = R[j]? := fun j => by
    rw [World.cell?_alloc_past _ _ _ (by simp)]
    exact World.cell?_alloc_new (w := w) R 65 j
  obtain ⟨g, hg, hk⟩ := h2.ev
  refine ⟨⟨by rw [hG, g5], by rw [hG, g6], by rw [hG, g7], h2.bel.row, h2.dep.row, h2.jmp.row⟩, by rw [hG, g1], by rw [hR, r4], fun x hx => by rw [hg.cell (by omega), hk x hx], by rw [hG, g8], h2.rch.row, ?_⟩
  have := h.ev.lt
  simp
  omega

theorem info43 : (Yba.prog.info? 43).map (fun i => (i.size, i.bytes)) = some (16, 248) := by kernel_rfl

/-- 'make' of each of the three slice types. -/
theorem mkInts (t e : TypeId) (z : Value) (by_ : Nat) (hz1 : z.cells = #[z]) (ht : Yba.prog.underlying t = some (.slice e)) (hi0 : (Yba.prog.info? e).map (fun i => (i.zero, i.size, i.bytes)) = some (some z, 1, by_)) (hby : by_ ≤ 8) (n : Nat) (hn : n ≤ 1024) (w : World) :
    (Instr.makeSlice t (.int .i64 (n : Int)) (.int .i64 (n : Int))).run Yba.prog w = .ok (.slice (some ⟨w.heap.size, 0, none⟩) n n) (w.alloc (.cells (zeros z n) e)) := by
  obtain ⟨i0, hi, hz0, hzs, hz2⟩ := info_parts hi0
  have hb : (i0.bytes : Int) * (n : Int) ≤ 281474976710656 := by
    rw [hz2]
    have : (by_ : Int) * (n : Int) ≤ 8 * 1024 := Int.mul_le_mul (by omega) (by omega) (by omega) (by omega)
    omega
  have h := run_make (P := Yba.prog) w t e i0 z ht hi hz0 .i64 .i64 (n : Int) (n : Int) (by omega) (by omega) hb (by omega)
  rw [h]
  simp [zeros, hzs, hz1]

theorem info3 : (Yba.prog.info? 3).map (fun i => (i.zero, i.size, i.bytes)) = some (some (.int .i64 0), 1, 8) := by kernel_rfl
theorem info21 : (Yba.prog.info? 21).map (fun i => (i.zero, i.size, i.bytes)) = some (some (.int .i32 0), 1, 4) := by kernel_rfl

/-- The zero event's cells. -/
def ev0 : Array Value := #[.string ByteArray.empty, .string ByteArray.empty, .pointer none, .string ByteArray.empty, .string ByteArray.empty, .bool false, .int .i64 0, .slice none 0 0, .slice none 0 0, .string ByteArray.empty, .int .i64 0, .int .i64 0, .slice none 0 0, .slice none 0 0, .slice none 0 0, .pointer none]

theorem info43z : (Yba.prog.info? 43).map (fun i => (i.zero, i.size, i.bytes)) = some (some (.agg ev0), 16, 248) := by kernel_rfl

theorem mkEvs (n : Nat) (hn : n ≤ 1024) (w : World) :
    (Instr.makeSlice 31 (.int .i64 (n : Int)) (.int .i64 (n : Int))).run Yba.prog w = .ok (.slice (some ⟨w.heap.size, 0, none⟩) n n) (w.alloc (.cells (madeCells ev0 (n * 16)) 43)) := by
  obtain ⟨i0, hi, hz0, hzs, hz2⟩ := info_parts info43z
  have hb : (i0.bytes : Int) * (n : Int) ≤ 281474976710656 := by
    rw [hz2]
    omega
  have h := run_make (P := Yba.prog) w 31 43 i0 (.agg ev0) Yba.underlying31 hi hz0 .i64 .i64 (n : Int) (n : Int) (by omega) (by omega) hb (by omega)
  rw [h]
  simp [hzs, Value.cells]

theorem made_row (w : World) (z : Array Value) (n : Nat) (e : TypeId) : RowAt (w.alloc (.cells (madeCells z n) e)) w.heap.size e n (fun j => z[j % z.size]!) := by
  refine ⟨madeCells z n, (MapKept.heap_alloc w _).1, size_madeCells _ _, fun j hj => ?_⟩
  simp [madeCells, hj]

end Go.Proofs.Ybulkcrss
