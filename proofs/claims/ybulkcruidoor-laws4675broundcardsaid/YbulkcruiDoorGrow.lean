/- Rows that grow; the decimal appended; what Round leaves behind its 'if'. -/
import Derived.Test.YbulkcruiDoorNode
import Derived.Test.YbulkcruiDoorShelf
import Derived.Lib.ItoaLen
namespace Go.Proofs.YbulkcruiDoor
open Go.ChangeShapes Go.WideShapes Go.ChangeAt Go.RowKit
set_option maxHeartbeats 400000
set_option maxRecDepth 20000
set_option linter.unusedVariables false

/-- The name of the table of powers of ten, off the row's own list. -/
def tabName : String := Rows.lawS4675BRoundRow.named.headD ""

theorem append_int (B n : Nat) (i : Int) (h0 : -9223372036854775808 ≤ i) (h1 : i ≤ 9223372036854775807) (sv : Value) (xs : List Value) (w : World) (hown : w.ownsRow B 5 1 sv n xs) (hBw : B ≤ w.heap.size) (hlim : n + 21 ≤ 140737488355328) (htab : Lib.TabBelow Ybad.prog B w tabName .u64 Lib.pow10Tab) :
    Calls Ybad.prog 7 #[sv, .int .i64 i, .int .i64 10] w fun e w' => ∃ v', e = .returned v' ∧ w'.ownsRow B 5 1 v' (n + (Lib.itoa i).length) (xs ++ Lib.byteCells (Lib.itoa i)) ∧ Below B w w' ∧ Lib.OthersKept 5 none w w' := Any.strconv_AppendInt_10 Ybad.laysM176 B n i h0 h1 sv xs w hown hBw hlim htab

theorem append_dec (B fl : Nat) (hfl : fl ≤ 1024) (w : World) (hB : B ≤ w.heap.size) (htab : Lib.TabBelow Ybad.prog B w tabName .u64 Lib.pow10Tab) :
    Calls Ybad.prog 7 #[.slice none 0 0, .int .i64 fl, .int .i64 10] w fun e w' => ∃ g n cap, e = .returned (.slice (some ⟨g, 0, none⟩) n cap) ∧ n ≤ 21 ∧ w'.ownsRow w.heap.size 5 1 (.slice (some ⟨g, 0, none⟩) n cap) n (Lib.byteCells (Lib.itoa fl)) ∧ Turned w w' (fun _ => False) := by
  refine (append_int w.heap.size 0 fl (by omega) (by omega) (.slice none 0 0) [] w (World.ownsRow_nil _ _ _ _) (Nat.le_refl _) (by omega) (fun w' h => htab w' ⟨h.os, h.tape, h.output, h.size, fun b hb => h.block b (by omega)⟩)).mono ?_
  rintro e w' ⟨v', rfl, ho, hb, _⟩
  have hl := Lib.itoa_length_le fl (by omega) (by omega)
  have hp : 0 < (Lib.itoa fl).length := by
    have : Lib.itoa (fl : Int) = Lib.decDigits fl := by simp [Lib.itoa]
    rw [this, Lib.decDigits_length]
    exact Lib.nDigits_pos fl
  simp only [Nat.zero_add, List.nil_append] at ho
  rcases ho.2 with ⟨_, h0⟩ | ⟨g, cap, cur, rfl, _⟩
  · omega
  · exact ⟨g, _, cap, rfl, hl, ho, ⟨hb.os, hb.tape, hb.output, hb.size, fun b hb' _ => hb.block b hb'⟩⟩

theorem one_bytes (l : List UInt8) : ∀ u ∈ Lib.byteCells l, u.oneCell' = true := by
  intro u hu
  unfold Lib.byteCells at hu
  obtain ⟨b, _, rfl⟩ := List.mem_map.1 hu
  rfl

/-- The supply's three cells. -/
def supRow (nb : Nat) (fv sv : Value) (j : Nat) : Value := if j = 0 then .iface 27 (.pointer (some ⟨nb, 0, none⟩)) else if j = 1 then fv else sv

/-- Behind the 'if' of Round: one more message where none was queued. -/
def Grown (B : Nat) (sb nb fb db fl sl : Nat) (F S : List Value) (q f t : Int) (fr : Value) (ok : Bool) (w w' : World) : Prop :=
  ∃ fv sv pv, RowAt w' sb 36 3 (supRow nb fv sv) ∧ RowAt w' nb 31 9 (nodeRow (q + if q = 0 then 1 else 0) pv (.slice none 0 0) (.slice none 0 0) 1 f t fr ok) ∧
    w'.ownsRow B 3 1 fv (fl + if q = 0 then 1 else 0) (F ++ List.replicate (if q = 0 then 1 else 0) (.int .i64 0)) ∧ w'.ownsRow B 3 1 sv (sl + if q = 0 then 1 else 0) (S ++ List.replicate (if q = 0 then 1 else 0) (.int .i64 0)) ∧
    (∀ k, fv.ownBlock = some k → ¬ sv.ownBlock = some k) ∧
    (q ≠ 0 → pv = .slice none 0 0) ∧ (q = 0 → ∃ pb pc cb n, pv = .slice (some ⟨pb, 0, none⟩) 1 pc ∧ w'.cell? ⟨pb, 0, none⟩ = some (.slice (some ⟨cb, 0, none⟩) n n) ∧ w.heap.size ≤ pb ∧ w.heap.size ≤ cb ∧ (∀ k, fv.ownBlock = some k → k ≠ pb ∧ k ≠ cb) ∧ w'.ownsRow w.heap.size 5 1 (.slice (some ⟨cb, 0, none⟩) n n) n (Lib.byteCells (Lib.itoa fl))) ∧
    (∀ k, fv.ownBlock = some k → k = fb ∨ w.heap.size ≤ k) ∧ (∀ k, sv.ownBlock = some k → k = db ∨ w.heap.size ≤ k) ∧
    Turned w w' (fun b => b = sb ∨ b = nb ∨ b = fb ∨ b = db)

theorem meth_q (a : Addr) (w : World) : (method 180 27 (.pointer (some a)) "Queued").run Ybad.prog w = .ok (38, .pointer (some a)) w := by kernel_rfl
theorem meth_b (a : Addr) (w : World) : (method 180 27 (.pointer (some a)) "Broadcast").run Ybad.prog w = .ok (37, .pointer (some a)) w := by kernel_rfl
theorem meth_r (a : Addr) (w : World) : (method 180 27 (.pointer (some a)) "Round").run Ybad.prog w = .ok (39, .pointer (some a)) w := by kernel_rfl
theorem ahead_b (a : Addr) (w : World) : (nilAhead 180 27 (.pointer (some a)) "Broadcast").run Ybad.prog w = .ok (some false) w := by kernel_rfl

/-- Behind the Broadcast: the node holds one message. -/
def Cast (nb fl : Nat) (f t : Int) (fr : Value) (ok : Bool) (w w' : World) : Prop :=
  ∃ pb pc cb n, RowAt w' nb 31 9 (nodeRow 1 (.slice (some ⟨pb, 0, none⟩) 1 pc) (.slice none 0 0) (.slice none 0 0) 1 f t fr ok) ∧ w'.cell? ⟨pb, 0, none⟩ = some (.slice (some ⟨cb, 0, none⟩) n n) ∧ w.heap.size ≤ pb ∧ w.heap.size ≤ cb ∧ w'.ownsRow w.heap.size 5 1 (.slice (some ⟨cb, 0, none⟩) n n) n (Lib.byteCells (Lib.itoa fl)) ∧ Turned w w' (fun b => b = nb)

theorem ownsRow_base {w : World} {B B' : Nat} {e : TypeId} {size : Nat} {v : Value} {n : Nat} {xs : List Value} (h : w.ownsRow B e size v n xs) (hb : B' ≤ B) : w.ownsRow B' e size v n xs := by
  refine ⟨h.1, ?_⟩
  rcases h.2 with h' | ⟨g, cap, cur, rfl, hbg, rest⟩
  · exact .inl h'
  · exact .inr ⟨g, cap, cur, rfl, Nat.le_trans hb hbg, rest⟩

/-- An append whose run is known. -/
theorem wpList_app_run {w : World} {ops : Array Oper} {rest : List Oper} {o : Oper} {a : Act} {Q : Exit → Act → World → Prop} (hgd : o.guard = none) (s x : Operand) (t : TypeId)
    (ho : o.op = .call { callee := .builtin .append, args := #[s, x], argTypes := #[t, t] }) (v1 v2 : Value) (hs : a.eval s = v1) (hx : a.eval x = v2) (v' : Value) (w' : World)
    (hr : ∀ ty, (Builtin.append_ #[t, t] ty #[v1, v2]).run Ybad.prog w = .ok v' w') (h : wpList Ybad.prog ops Q rest (a.put o.dst v') w') : wpList Ybad.prog ops Q (o :: rest) a w := by
  refine wpList_plain hgd fun K hK => ?_
  unfold Oper.wp execOp
  simp only [ho, resolve, invoke, builtin, Sem.run_bind, Sem.run_pure, Result.andThen_ok, List.map_toArray, List.map_cons, List.map_nil, hs, hx, hr]
  exact hK _ _ h

/-- One element appended to a full row of the call's own: a new row. -/
theorem growOne (w : World) (B b n : Nat) (hn : n ≤ 1024) (xs : List Value) (ho : w.ownsRow B 3 1 (.slice (some ⟨b, 0, none⟩) n n) n xs) (g : Nat) (u : Value) (hc : w.cell? ⟨g, 0, none⟩ = some u) :
    ∃ c w', (∀ ty, (Builtin.append_ #[22, 22] ty #[.slice (some ⟨b, 0, none⟩) n n, .slice (some ⟨g, 0, none⟩) 1 1]).run Ybad.prog w = .ok (.slice (some ⟨w.heap.size, 0, none⟩) (n + 1) c) w') ∧ w'.ownsRow w.heap.size 3 1 (.slice (some ⟨w.heap.size, 0, none⟩) (n + 1) c) (n + 1) (xs ++ [u]) ∧ Turned w w' (fun _ => False) ∧ w'.heap.size = w.heap.size + 1 := by
  obtain ⟨i3, e1, e2, e3, e4⟩ := info_parts info3
  have hx : xs.length = n := by simpa using ho.1
  have hfit : Builtin.nextslicecap (n + 1) n * i3.bytes ≤ 281474976710656 := by
    rw [e4]
    have := nextslicecap_le (need := n + 1) (old := n) (by omega)
    omega
  have hr := fun ty => run_append_grow (P := Ybad.prog) w 22 ty 3 i3 (.int .i64 0) Ybad.underlying22 e1 e2 ⟨b, 0, none⟩ n n xs (by rw [e3]; omega) (ho.cells rfl) ⟨g, 0, none⟩ 1 1 [u] (by simp [e3]) (cell_add0 w g u hc) (by omega) (by omega) hfit
  have hge := grownCap_ge w (n + 1) n 3
  have hcm := grownCap_le_maxLen w (n + 1) n 3 (by unfold maxLen; omega)
  refine ⟨_, _, hr, ⟨by simp [hx], .inr ⟨w.heap.size, _, _, rfl, Nat.le_refl _, heap_alloc_new w.drew _, hge, hcm, ?_, ?_⟩⟩, ⟨rfl, rfl, rfl, by simp, fun k hk _ => Below.heap_alloc w.drew _ k hk⟩, by simp⟩
  · simp [size_zeroCells, hx, Value.cells]
    omega
  · have h1 : (xs.toArray ++ [u].toArray ++ Builtin.zeroCells (Value.int .i64 0).cells (grownCap w (n + 1) n 3 - (n + 1))).toList = (xs ++ [u]) ++ (Builtin.zeroCells (Value.int .i64 0).cells (grownCap w (n + 1) n 3 - (n + 1))).toList := by simp
    rw [h1, show (n + 1) * 1 = (xs ++ [u]).length by simp [hx]]
    exact List.take_left

/-- What Round leaves. -/
def Rounded (B : Nat) (sb nb fb db fl sl : Nat) (F S : List Value) (q f t r : Int) (fr rcv : Value) (ok : Bool) (w w' : World) : Prop :=
  ∃ fv sv pv xb xc yb yc, RowAt w' sb 36 3 (supRow nb fv sv) ∧ RowAt w' nb 31 9 (nodeRow (q + if q = 0 then 1 else 0) pv (.slice (some ⟨xb, 0, none⟩) 1 xc) (.slice (some ⟨yb, 0, none⟩) 1 yc) 1 f t fr ok) ∧
    w'.ownsRow B 3 1 fv (fl + if q = 0 then 1 else 0) ((F ++ List.replicate (if q = 0 then 1 else 0) (Value.int .i64 0)).set ((fl + if q = 0 then 1 else 0) - 1) (.int .i64 r)) ∧ w'.ownsRow B 3 1 sv (sl + if q = 0 then 1 else 0) (S ++ List.replicate (if q = 0 then 1 else 0) (.int .i64 0)) ∧
    w'.cell? ⟨xb, 0, none⟩ = some (.int .i64 r) ∧ w'.cell? ⟨yb, 0, none⟩ = some rcv ∧
    (q ≠ 0 → pv = .slice none 0 0) ∧ (q = 0 → ∃ pb pc cb n, pv = .slice (some ⟨pb, 0, none⟩) 1 pc ∧ w'.cell? ⟨pb, 0, none⟩ = some (.slice (some ⟨cb, 0, none⟩) n n) ∧ w'.ownsRow w.heap.size 5 1 (.slice (some ⟨cb, 0, none⟩) n n) n (Lib.byteCells (Lib.itoa fl))) ∧
    Turned w w' (fun b => b = sb ∨ b = nb ∨ b = fb ∨ b = db)

theorem own_pos {w : World} {B : Nat} {e : TypeId} {v : Value} {n : Nat} {xs : List Value} (h : w.ownsRow B e 1 v n xs) (hn : 0 < n) : ∃ g cap, v = .slice (some ⟨g, 0, none⟩) n cap ∧ B ≤ g ∧ g < w.heap.size := by
  rcases h.2 with ⟨_, h0⟩ | ⟨g, cap, cur, rfl, hb, hg, _⟩
  · omega
  · exact ⟨g, cap, rfl, hb, (Array.getElem?_eq_some_iff.1 hg).1⟩

end Go.Proofs.YbulkcruiDoor
