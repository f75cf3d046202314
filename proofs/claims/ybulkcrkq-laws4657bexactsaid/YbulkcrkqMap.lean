/- A map keyed by pointers to transaction cores, its elements the pair (mode, place): looked up, written. No entry ever leaves, so an entry's stamp is its place. -/
import Derived.Test.YbulkcrkqMem
import Derived.LaidEqlPtr
namespace Go.Proofs.Ybulkcrkq
open Go.ChangeShapes Go.WideShapes Go.ChangeAt Go.RowKit

theorem info88 : (Yba.prog.info? 88).map (fun i => decide (i.size = 58)) = some true := by kernel_rfl

theorem info88_size : ∃ j, Yba.prog.info? 88 = some j ∧ j.size ≠ 0 := by
  have h := info88
  cases hi : Yba.prog.info? 88 with
  | none => rw [hi] at h; cases h
  | some j =>
    rw [hi] at h
    simp at h
    exact ⟨j, rfl, by omega⟩

/-- Block a is a core: the whole struct, nothing frozen. -/
def IsCore (w : World) (a : Addr) : Prop := ∃ b C, a = ⟨b, 0, none⟩ ∧ w.heap[b]? = some (.cells C 88 (0, 0))

/-- A key of the map: nil or a core. -/
def OkKey (w : World) : Option Addr → Prop
  | none => True
  | some a => IsCore w a

theorem IsCore.lt {w : World} {b o : Nat} {s : Option Nat} (h : IsCore w ⟨b, o, s⟩) : b < w.heap.size := by
  obtain ⟨b', C, e, hb⟩ := h
  cases e
  exact (Array.getElem?_eq_some_iff.1 hb).1

/-- 'x == y' between two keys. -/
theorem run_equal_keys (w : World) {x y : Option Addr} (hx : OkKey w x) (hy : OkKey w y) (d : Nat) :
    (Op.equalIn (d + 1) 23 (.pointer x) (.pointer y)).run Yba.prog w = .ok (decide (x = y)) w := by
  obtain ⟨j, hj, hsz⟩ := info88_size
  cases x with
  | none =>
    cases y <;> simp [Op.equalIn, run_underlying Yba.underlying23]
  | some a =>
    cases y with
    | none => simp [Op.equalIn, run_underlying Yba.underlying23]
    | some c =>
      obtain ⟨b1, C1, rfl, h1⟩ := hx
      obtain ⟨b2, C2, rfl, h2⟩ := hy
      by_cases e : b1 = b2
      · subst e
        simp [Op.equalIn, run_underlying Yba.underlying23, sizeOf, typeInfo, hj, run_sameAddr_same]
      · have hne : (⟨b1, 0, none⟩ : Addr) ≠ ⟨b2, 0, none⟩ := fun h => e (by cases h; rfl)
        simp [Op.equalIn, run_underlying Yba.underlying23, sizeOf, typeInfo, hj, hsz, run_sameAddr_other w hne h1 h2]

theorem run_eql_keys (w : World) {x y : Option Addr} (hx : OkKey w x) (hy : OkKey w y) :
    (binOp .eql 23 (.pointer x) (.pointer y)).run Yba.prog w = .ok (.bool (decide (x = y))) w := by
  simp only [binOp]
  simp [Op.equal, Op.maxDepth, run_equal_keys w hx hy 9999]

/-- The j-th entry. -/
def ent (v : Option Addr → Int × Int) (j : Nat) (k : Option Addr) : MapEntry := ⟨.pointer k, .agg #[.int .u8 (v k).1, .int .i32 (v k).2], j⟩

/-- Block b is the map whose keys, in the order of their coming, are ks, and whose element at k is v k. -/
structure MapIs (w : World) (b : Nat) (ks : List (Option Addr)) (v : Option Addr → Int × Int) : Prop where
  block : ∃ es : Array MapEntry, w.heap[b]? = some (.map es ks.length) ∧ ∀ j : Nat, es[j]? = (ks[j]?).map (ent v j)
  nodup : ks.Nodup
  out : ∀ k, k ∉ ks → v k = (0, 0)

theorem MapIs.of_block {w w' : World} {b : Nat} {ks : List (Option Addr)} {v : Option Addr → Int × Int} (h : MapIs w b ks v) (hb : w'.heap[b]? = w.heap[b]?) : MapIs w' b ks v :=
  ⟨by obtain ⟨es, h1, h2⟩ := h.block; exact ⟨es, hb.trans h1, h2⟩, h.nodup, h.out⟩

theorem MapIs.lt {w : World} {b : Nat} {ks : List (Option Addr)} {v : Option Addr → Int × Int} (h : MapIs w b ks v) : b < w.heap.size := by
  obtain ⟨es, h1, _⟩ := h.block
  exact (Array.getElem?_eq_some_iff.1 h1).1

theorem mapIs_made (w : World) : MapIs (w.alloc (.map #[] 0)) w.heap.size [] (fun _ => (0, 0)) :=
  ⟨⟨#[], (MapKept.heap_alloc w _).1, by simp⟩, List.nodup_nil, fun _ _ => rfl⟩

/-- Finding a key among entries. -/
theorem run_findAsking (w : World) {x : Option Addr} (hx : OkKey w x) (v : Option Addr → Int × Int) : ∀ (ks : List (Option Addr)) (l : List MapEntry) (i d : Nat), (∀ k ∈ ks, OkKey w k) → (∀ j : Nat, l[j]? = (ks[j]?).map (ent v (d + j))) → 
    (Instr.findAsking 23 (.pointer x) l i).run Yba.prog w = .ok (if x ∈ ks then some (i + ks.idxOf x, (ent v 0 x).val) else none) w
  | [], l, i, d, _, hl => by
    have : l = [] := by
      have := hl 0
      cases l with
      | nil => rfl
      | cons _ _ => simp at this
    subst this
    simp [Instr.findAsking]
  | k :: r, l, i, d, hk, hl => by
    cases l with
    | nil => have := hl 0; simp at this
    | cons e es =>
      have he : e = ent v d k := by have := hl 0; simpa using this
      have hes : ∀ j : Nat, es[j]? = (r[j]?).map (ent v (d + 1 + j)) := fun j => by
        have := hl (j + 1)
        simp only [List.getElem?_cons_succ] at this
        rw [this]
        congr 2
        omega
      have ih := run_findAsking w hx v r es (i + 1) (d + 1) (fun k hk' => hk k (by simp [hk'])) hes
      have heq : (Op.equal 23 (.pointer x) (.pointer k)).run Yba.prog w = .ok (decide (x = k)) w := run_equal_keys w hx (hk k (by simp)) 9999
      have hek : e.key = .pointer k := by rw [he]; rfl
      have hev : e.val = (ent v 0 k).val := by rw [he]; rfl
      unfold Instr.findAsking
      rw [hek, hev]
      by_cases hxk : x = k
      · subst hxk
        simp [heq]
      · have hb : (k == x) = false := by simpa using fun h => hxk h.symm
        simp [heq, hxk, ih, List.idxOf_cons, hb]
        by_cases hm : x ∈ r <;> simp [hm]
        omega

theorem run_findKey_ptr (w : World) {x : Option Addr} (hx : OkKey w x) (v : Option Addr → Int × Int) (ks : List (Option Addr)) (es : Array MapEntry) (hk : ∀ k ∈ ks, OkKey w k) (hl : ∀ j : Nat, es[j]? = (ks[j]?).map (ent v j)) :
    (Instr.findKey 23 (.pointer x) es.toList).run Yba.prog w = .ok (if x ∈ ks then some (ks.idxOf x, (ent v 0 x).val) else none) w := by
  have hf := run_findAsking w hx v ks es.toList 0 0 hk (fun j => by simpa using hl j)
  cases hes : es.toList with
  | nil =>
    have : ks = [] := by
      have := hl 0
      cases ks with
      | nil => rfl
      | cons _ _ =>
        have hsz : es = #[] := by apply Array.ext'; simpa using hes
        subst hsz
        simp at this
    subst this
    simp [Instr.findKey, run_underlying Yba.underlying23, Instr.findNow]
  | cons e r =>
    rw [hes] at hf
    have : e.key = .pointer (ks.headD none) := by
      have h := hl 0
      have h2 : es.toList[0]? = some e := by rw [hes]; rfl
      simp only [Array.getElem?_toList] at h2
      rw [h2] at h
      cases ks with
      | nil => simp at h
      | cons k _ => simp at h; subst h; rfl
    simp [Instr.findKey, run_underlying Yba.underlying23, Instr.findNow, this, Instr.sameNow, hf]

theorem zero99 (w : World) : (zeroValue 99).run Yba.prog w = .ok (.agg #[.int .u8 0, .int .i32 0]) w := by kernel_rfl

theorem run_checkKey_ptr (w : World) (e : Bool) (n : Nat) (x : Option Addr) : (Instr.checkKey e (n + 1) 23 (.pointer x)).run Yba.prog w = .ok () w := by
  unfold Instr.checkKey
  simp only [Sem.run_bind, run_underlying Yba.underlying23, Result.andThen]
  simp

/-- 'held, holds := m[k]'. -/
theorem run_look (w : World) {b : Nat} {ks : List (Option Addr)} {v : Option Addr → Int × Int} (h : MapIs w b ks v) (hk : ∀ k ∈ ks, OkKey w k) {x : Option Addr} (hx : OkKey w x) :
    (Instr.lookup 92 (.map (some b)) (.pointer x) true).run Yba.prog w = .ok (.tuple #[.agg #[.int .u8 (v x).1, .int .i32 (v x).2], .bool (decide (x ∈ ks))]) w := by
  obtain ⟨es, hb, hes⟩ := h.block
  have hf := run_findKey_ptr w hx v ks es hk hes
  have hck := fun e => run_checkKey_ptr w e 9999 x
  have hz := zero99 w
  by_cases hm : x ∈ ks
  · simp [Instr.lookup, run_underlying Yba.underlying92, MapKept.run_getObj_map hb, hck, hf, hm, ent]
  · simp [Instr.lookup, run_underlying Yba.underlying92, MapKept.run_getObj_map hb, hck, hf, hm, h.out x hm, hz]

/-- The key's place, or the place behind the last. -/
def mapPut (w : World) (b : Nat) (k : Option Addr) (x : Value) : World :=
  match w.heap[b]? with
  | some (.map es clock) =>
    match es.toList.findIdx? (fun e => match e.key with | .pointer k' => decide (k' = k) | _ => false) with
    | some i => { w with heap := w.heap.setIfInBounds b (.map (es.modify i fun e => { e with val := x }) clock) }
    | none => { w with heap := w.heap.setIfInBounds b (.map (es.push ⟨.pointer k, x, clock⟩) (clock + 1)) }
  | _ => w

theorem mapPut_drew (w : World) (b : Nat) (k : Option Addr) (x : Value) : mapPut w.drew b k x = (mapPut w b k x).drew := by
  unfold mapPut
  show (match w.heap[b]? with | some (.map es clock) => _ | _ => _) = _
  split
  · split <;> rfl
  · rfl

theorem findIdx_keys (v : Option Addr → Int × Int) (x : Option Addr) : ∀ (ks : List (Option Addr)) (l : List MapEntry) (d : Nat), (∀ j : Nat, l[j]? = (ks[j]?).map (ent v (d + j))) →
    l.findIdx? (fun e => match e.key with | .pointer k' => decide (k' = x) | _ => false) = if x ∈ ks then some (ks.idxOf x) else none
  | [], l, d, hl => by
    have : l = [] := by
      have := hl 0
      cases l with
      | nil => rfl
      | cons _ _ => simp at this
    subst this
    simp
  | k :: r, l, d, hl => by
    cases l with
    | nil => have := hl 0; simp at this
    | cons e es =>
      have he : e = ent v d k := by have := hl 0; simpa using this
      have hes : ∀ j : Nat, es[j]? = (r[j]?).map (ent v (d + 1 + j)) := fun j => by
        have := hl (j + 1)
        simp only [List.getElem?_cons_succ] at this
        rw [this]
        congr 2
        omega
      have ih := findIdx_keys v x r es (d + 1) hes
      have hek : e.key = .pointer k := by rw [he]; rfl
      rw [List.findIdx?_cons, hek]
      by_cases hxk : k = x
      · subst hxk
        simp
      · have hb : (k == x) = false := by simpa using hxk
        simp [hxk, ih, List.idxOf_cons, hb, Ne.symm hxk]

theorem at_idxOf {ks : List (Option Addr)} {x : Option Addr} (hm : x ∈ ks) : ks[ks.idxOf x]? = some x := by
  rw [List.getElem?_eq_getElem (List.idxOf_lt_length_of_mem hm)]
  simp [List.getElem_idxOf]

/-- The keys behind a store. -/
def ins (ks : List (Option Addr)) (k : Option Addr) : List (Option Addr) := if k ∈ ks then ks else ks ++ [k]

theorem mem_ins {ks : List (Option Addr)} {k x : Option Addr} : x ∈ ins ks k ↔ x ∈ ks ∨ x = k := by
  unfold ins
  by_cases h : k ∈ ks
  · simp only [h, if_true]
    exact ⟨Or.inl, fun h' => h'.elim id (fun e => e ▸ h)⟩
  · simp [h]

/-- The elements behind a store. -/
def updv (v : Option Addr → Int × Int) (k : Option Addr) (p : Int × Int) (x : Option Addr) : Int × Int := if x = k then p else v x

/-- 'm[k] = x': the operation. -/
theorem run_mapPut (w : World) {b : Nat} {ks : List (Option Addr)} {v : Option Addr → Int × Int} (h : MapIs w b ks v) (hk : ∀ k ∈ ks, OkKey w k) {x : Option Addr} (hx : OkKey w x) (val : Value) :
    (Instr.mapUpdate 92 (.map (some b)) (.pointer x) val).run Yba.prog w = .ok () (mapPut w b x val) := by
  obtain ⟨es, hb, hes⟩ := h.block
  have hf := run_findKey_ptr w hx v ks es hk hes
  have hck := fun e => run_checkKey_ptr w e 9999 x
  have hi := findIdx_keys v x ks es.toList 0 (fun j => by simpa using hes j)
  by_cases hm : x ∈ ks
  · have hat : es[ks.idxOf x]? = some (ent v (ks.idxOf x) x) := by rw [hes, at_idxOf hm]; rfl
    have hstay : (Instr.keyThatStays (.pointer x) (.pointer x)).run Yba.prog w = .ok (.pointer x) w := by
      simp [Instr.keyThatStays, Instr.sameBits]
    simp only [hm, if_true] at hf hi
    have e1 : (es.modify (ks.idxOf x) fun e => { e with key := .pointer x, val := val }) = es.modify (ks.idxOf x) fun e => { e with val := val } := by
      apply Array.ext_getElem?
      intro j
      simp only [Array.getElem?_modify]
      by_cases e : ks.idxOf x = j
      · subst e; simp [hat, ent]
      · simp [e]
    simp [Instr.mapUpdate, run_underlying Yba.underlying92, MapKept.run_getObj_map hb, hck, hf, hat, ent, hstay, MapKept.run_setObj_map _ hb, mapPut, hb, hi, e1]
  · simp only [hm, if_false] at hf hi
    simp [Instr.mapUpdate, run_underlying Yba.underlying92, MapKept.run_getObj_map hb, hck, hf, MapKept.run_setObj_map _ hb, mapPut, hb, hi]

/-- .. what the map is then. -/
theorem MapIs.put {w : World} {b : Nat} {ks : List (Option Addr)} {v : Option Addr → Int × Int} (h : MapIs w b ks v) (x : Option Addr) (m p : Int) :
    MapIs (mapPut w b x (.agg #[.int .u8 m, .int .i32 p])) b (ins ks x) (updv v x (m, p)) := by
  have hlt := h.lt
  obtain ⟨es, hb, hes⟩ := h.block
  have hi := findIdx_keys v x ks es.toList 0 (fun j => by simpa using hes j)
  refine ⟨?_, ?_, ?_⟩
  · by_cases hm : x ∈ ks
    · simp only [hm, if_true] at hi
      refine ⟨es.modify (ks.idxOf x) fun e => { e with val := .agg #[.int .u8 m, .int .i32 p] }, ?_, fun j => ?_⟩
      · unfold mapPut
        rw [hb]
        simp only [hi, ins, hm, if_true]
        simp [hlt]
      · simp only [Array.getElem?_modify, ins, hm, if_true]
        by_cases e : ks.idxOf x = j
        · subst e
          simp [hes, at_idxOf hm, ent, updv]
        · simp only [e, if_false, hes]
          cases hj : ks[j]? with
          | none => rfl
          | some k =>
            have hne : k ≠ x := by
              intro hkx
              subst hkx
              have hlt' : j < ks.length := (List.getElem?_eq_some_iff.1 hj).1
              have h1 : ks[j] = k := (List.getElem?_eq_some_iff.1 hj).2
              exact e (by rw [← h1]; exact h.nodup.idxOf_getElem j hlt')
            simp [ent, updv, hne]
    · simp only [hm, if_false] at hi
      refine ⟨es.push ⟨.pointer x, .agg #[.int .u8 m, .int .i32 p], ks.length⟩, ?_, fun j => ?_⟩
      · unfold mapPut
        rw [hb]
        simp only [hi, ins, hm, if_false]
        simp [hlt]
      · have hsz : es.size = ks.length := by
          have h1 : es[ks.length]? = none := by rw [hes]; simp
          have h2 : (ks[es.size]?).map (ent v es.size) = none := by rw [← hes]; simp
          have h3 : ks[es.size]? = none := by simpa using h2
          rw [Array.getElem?_eq_none_iff] at h1
          rw [List.getElem?_eq_none_iff] at h3
          omega
        simp only [ins, hm, if_false, Array.getElem?_push, List.getElem?_append, hsz]
        by_cases e : j = ks.length
        · subst e; simp [ent, updv]
        · by_cases hj : j < ks.length
          · simp only [e, if_false, hj, if_true, hes]
            have hk : ks[j]? = some ks[j] := by simp [hj]
            have hne : ks[j] ≠ x := fun h' => hm (h' ▸ List.getElem_mem hj)
            simp [hk, ent, updv, hne]
          · have hj2 : j - ks.length ≠ 0 := by omega
            have h1 : es[j]? = none := by rw [Array.getElem?_eq_none_iff]; omega
            have h2 : [x][j - ks.length]? = none := by rw [List.getElem?_eq_none_iff]; simp; omega
            simp only [e, if_false, hj, h1, h2]
            rfl
  · unfold ins
    by_cases hm : x ∈ ks
    · simp [hm, h.nodup]
    · simp only [hm, if_false]
      exact List.nodup_append.2 ⟨h.nodup, by simp, fun a ha b hb' => by simp at hb'; subst hb'; exact fun e => hm (e ▸ ha)⟩
  · intro k hk
    rw [mem_ins] at hk
    have : k ≠ x := fun e => hk (.inr e)
    simp [updv, this, h.out k (fun h' => hk (.inl h'))]

theorem mapPut_other (w : World) (b : Nat) (k : Option Addr) (x : Value) {j : Nat} (h : j ≠ b) : (mapPut w b k x).heap[j]? = w.heap[j]? := by
  unfold mapPut
  split
  · split <;> simp [Ne.symm h]
  · rfl

theorem mapPut_size (w : World) (b : Nat) (k : Option Addr) (x : Value) : (mapPut w b k x).heap.size = w.heap.size := by
  unfold mapPut
  split
  · split <;> simp
  · rfl

theorem below_mapPut {B : Nat} {w0 w : World} (h : Below B w0 w) {b : Nat} (hb : B ≤ b) (k : Option Addr) (x : Value) : Below B w0 (mapPut w b k x) := by
  refine h.trans ⟨?_, ?_, ?_, by rw [mapPut_size]; exact Nat.le_refl _, fun j hj => mapPut_other w b k x (by omega)⟩
  all_goals
    unfold mapPut
    split
    · split <;> rfl
    · rfl

end Go.Proofs.Ybulkcrkq
