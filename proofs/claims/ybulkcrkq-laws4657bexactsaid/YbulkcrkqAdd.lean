/- One more at the back of a row of cores; add. -/
import Derived.Test.YbulkcrkqLook
import Derived.OwnWalk
import Derived.Laws.DeepBits32
namespace Go.Proofs.Ybulkcrkq
open Go.ChangeShapes Go.WideShapes Go.ChangeAt Go.RowKit
set_option maxHeartbeats 1000000
set_option maxRecDepth 20000
set_option linter.unusedVariables false

theorem info23 : (Yba.prog.info? 23).map (fun i => (i.zero, i.size, i.bytes)) = some (some (.pointer none), 1, 8) := by kernel_rfl

/-- An append whose run is known. -/
theorem wpList_app_run {w : World} {ops : Array Oper} {rest : List Oper} {o : Oper} {a : Act} {Q : Exit → Act → World → Prop} (hgd : o.guard = none) (s x : Operand) (t : TypeId)
    (ho : o.op = .call { callee := .builtin .append, args := #[s, x], argTypes := #[t, t] }) (v1 v2 : Value) (hs : a.eval s = v1) (hx : a.eval x = v2) (v' : Value) (w' : World)
    (hr : ∀ ty, (Builtin.append_ #[t, t] ty #[v1, v2]).run Yba.prog w = .ok v' w') (h : wpList Yba.prog ops Q rest (a.put o.dst v') w') : wpList Yba.prog ops Q (o :: rest) a w := by
  refine wpList_plain hgd fun K hK => ?_
  unfold Oper.wp execOp
  simp only [ho, resolve, invoke, builtin, Sem.run_bind, Sem.run_pure, Result.andThen_ok, List.map_toArray, List.map_cons, List.map_nil, hs, hx, hr]
  exact hK _ _ h

theorem cell_add0 (w : World) (g : Nat) (u : Value) (h : w.cell? ⟨g, 0, none⟩ = some u) : ∀ j v, [u][j]? = some v → w.cell? ((⟨g, 0, none⟩ : Addr).add j) = some v := by
  intro j v hj
  cases j with
  | zero => simp at hj; subst hj; simpa [Addr.add] using h
  | succ j => simp at hj

theorem appendOne (w : World) (base : Nat) (v : Value) (n : Nat) (xs : List Value) (hn : n ≤ 1024) (ho : w.ownsRow base 23 1 v n xs) (hb : base ≤ w.heap.size) (g : Nat) (c : Addr) (hc : w.cell? ⟨g, 0, none⟩ = some (.pointer (some c))) :
    ∃ k cap w', (∀ ty, (Builtin.append_ #[37, 37] ty #[v, .slice (some ⟨g, 0, none⟩) 1 1]).run Yba.prog w = .ok (.slice (some ⟨k, 0, none⟩) (n + 1) cap) w') ∧ w'.ownsRow base 23 1 (.slice (some ⟨k, 0, none⟩) (n + 1) cap) (n + 1) (xs ++ [.pointer (some c)]) ∧ Turned w w' (fun b => v.ownBlock = some b) ∧ (v.ownBlock = some k ∨ w.heap.size ≤ k) := by
  obtain ⟨i, e1, e⟩ := Option.map_eq_some_iff.1 info23
  simp only [Prod.mk.injEq] at e
  obtain ⟨e2, e3, e4⟩ := e
  have hnews := cell_add0 w g _ hc
  obtain ⟨v', w', hr, ho', hg, _⟩ := run_append_own (P := Yba.prog) w base 37 0 23 i (.pointer none) 1 8 Yba.underlying37 e1 e2 e3 e4 rfl (by omega) v n xs ho ⟨g, 0, none⟩ 1 1 [.pointer (some c)] rfl hnews (by simp [Value.oneCell']) (by unfold maxLen; omega) (by omega) hb
  have hT : Turned w w' (fun b => v.ownBlock = some b) := ⟨hg.os, hg.tape, hg.output, hg.size, fun b hb' hne => hg.block b hb' (fun h => hne h.symm)⟩
  have hx : xs.length = n := by simpa using ho.1
  rcases ho.2 with ⟨rfl, rfl⟩ | ⟨g0, cap, cur, rfl, hb0, hg0, hcap, hmax, hsz, htake⟩
  · have hR := fun ty => run_append_nil (P := Yba.prog) w 37 ty 23 i (.pointer none) Yba.underlying37 e1 e2 ⟨g, 0, none⟩ 1 1 [.pointer (some c)] (by simp [e3]) hnews (by omega) (by omega) (by rw [e4]; omega)
    rw [hR 0] at hr
    injection hr with h1 h2
    subst h1 h2
    exact ⟨_, _, _, hR, ho', hT, .inr (Nat.le_refl _)⟩
  · by_cases hroom : n + 1 ≤ cap
    · have hR := fun ty => run_append_room (P := Yba.prog) w 37 ty 23 i Yba.underlying37 e1 g0 n cap cur hg0 ⟨g, 0, none⟩ 1 1 [.pointer (some c)] (by simp [e3]) hnews (by simp [Value.oneCell']) hroom (by simp [e3, hsz]; omega)
      rw [hR 0] at hr
      injection hr with h1 h2
      subst h1 h2
      exact ⟨_, _, _, hR, ho', hT, .inl rfl⟩
    · have hcells := ho.cells (g := g0) rfl
      have hle := nextslicecap_le (need := n + 1) (old := cap) (by omega)
      have hR := fun ty => run_append_grow (P := Yba.prog) w 37 ty 23 i (.pointer none) Yba.underlying37 e1 e2 ⟨g0, 0, none⟩ n cap xs (by rw [e3]; omega) hcells ⟨g, 0, none⟩ 1 1 [.pointer (some c)] (by simp [e3]) hnews (by omega) (by omega) (by rw [e4]; omega)
      rw [hR 0] at hr
      injection hr with h1 h2
      subst h1 h2
      exact ⟨_, _, _, hR, ho', hT, .inr (Nat.le_refl _)⟩

theorem _root_.Go.World.ownsRow.turned {w w' : World} {base : Nat} {e : TypeId} {size : Nat} {v : Value} {n : Nat} {xs : List Value} {T : Nat → Prop} (h : w.ownsRow base e size v n xs) (hT : Turned w w' T) (hne : ∀ k, v.ownBlock = some k → ¬ T k) : w'.ownsRow base e size v n xs := by
  refine ⟨h.1, ?_⟩
  rcases h.2 with h' | ⟨g, cap, cur, rfl, hb, hg, rest⟩
  · exact .inl h'
  · exact .inr ⟨g, cap, cur, rfl, hb, (hT.block g (Array.getElem?_eq_some_iff.1 hg).1 (hne g rfl)).trans hg, rest⟩

theorem nodes_nil0 (w : World) : (binOp .eql 108 (.slice none 0 0) (.slice none 0 0)).run Yba.prog w = .ok (.bool true) w := Lib.run_eql_slice_nil w 108 128 none 0 0 0 0 Yba.underlying108

theorem spliced_nil (L o : Nat) (a b c d : Int) (ids : Value) (w : World) (t0 : w.cell? ⟨L, o, none⟩ = some (.slice none 0 0)) :
    Calls Yba.prog 41 #[.pointer (some ⟨L, o, none⟩), .int .i64 a, .int .i64 b, .int .i64 c, .int .i64 d, ids] w fun e w' => e = .returned (.tuple #[]) ∧ w = w' := by
  have qn := nodes_nil0
  go_enter Yba.func41, Yba.ntmps41
  go_wp2_with fail
  exact bodyPost_ret (v := .tuple #[]) (by simp [results, Yba.results41]) rfl ⟨rfl, rfl⟩

/-- What add leaves. -/
def Added (L p eL nL base n : Nat) (g : Nat → Value) (v : Value) (xs : List Value) (c : Addr) (w w' : World) : Prop :=
  ∃ k cap, RowAt w' L eL nL (upd g p (.slice (some ⟨k, 0, none⟩) (n + 1) cap)) ∧ w'.ownsRow base 23 1 (.slice (some ⟨k, 0, none⟩) (n + 1) cap) (n + 1) (xs ++ [.pointer (some c)]) ∧ Turned w w' (fun b => b = L ∨ v.ownBlock = some b) ∧ (v.ownBlock = some k ∨ w.heap.size ≤ k) ∧ k ≠ L

theorem add_any (L p eL nL base n : Nat) (g : Nat → Value) (v : Value) (xs : List Value) (c : Addr) (hn : n ≤ 1000) (hp : p + 3 < nL) (w : World) (hR : RowAt w L eL nL g) (hv : g p = v) (hg1 : g (p + 1) = .slice none 0 0) (ho : w.ownsRow base 23 1 v n xs) (hb : base ≤ w.heap.size) (hne : v.ownBlock ≠ some L) :
    Calls Yba.prog 30 #[.pointer (some ⟨L, p, none⟩), .pointer (some c)] w fun e w' => e = .returned (.int .i32 (n : Nat)) ∧ Added L p eL nL base n g v xs c w w' := by
  have hLl := hR.lt
  have q0 := hR.cell (show p < nL by omega)
  rw [hv] at q0
  have qF := hR.frozen p
  obtain ⟨k, cap, w2, hr, ho2, hT, hk⟩ := appendOne (w.alloc (.cells #[.pointer (some c)] 23)) base v n xs (by omega) (ho.alloc _) (by simp; omega) w.heap.size c (by simp)
  have hT2 : Turned w w2 (fun b => v.ownBlock = some b) := ((Turned.refl w _).alloc (.cells #[.pointer (some c)] 23)).trans (hT.mono (fun _ _ h => .inl h))
  have hR2 := hT2.row hR hne
  have hkL : k ≠ L := by
    rcases hk with h | h
    · exact fun e => hne (e ▸ h)
    · simp at h
      omega
  have r1 := hR2.cell (show p + 1 < nL by omega)
  rw [hg1] at r1
  have r0 := hR2.cell (show p < nL by omega)
  have rF := hR2.frozen p
  have hR3 := hR2.set p (.slice (some ⟨k, 0, none⟩) (n + 1) cap) (by omega)
  have hT3 : Turned w (w2.setCell ⟨L, p, none⟩ (.slice (some ⟨k, 0, none⟩) (n + 1) cap)) (fun b => b = L ∨ v.ownBlock = some b) := (hT2.mono (fun _ _ h => .inr h)).setCell ⟨L, p, none⟩ (.inl (.inl rfl)) _
  have ho3 := ho2.turned ((Turned.refl w2 (fun b => b = L)).setCell ⟨L, p, none⟩ (.inl rfl) (.slice (some ⟨k, 0, none⟩) (n + 1) cap)) (by simp [Value.ownBlock]; exact hkL)
  have hsp := spliced_nil L (p + 1) ((n : Int) + 1) n n 1 (.func (.func 26) #[.pointer (some ⟨L, p, none⟩)] #[]) (w2.setCell ⟨L, p, none⟩ (.slice (some ⟨k, 0, none⟩) (n + 1) cap)) (by rw [hR3.cell (by omega), upd_other _ _ _ (by omega), hg1])
  have hk' : v.ownBlock = some k ∨ w.heap.size ≤ k := hk.imp id (fun h => by simp at h; omega)
  have HF : Hid (Added L p eL nL base n g v xs c w (w2.setCell ⟨L, p, none⟩ (.slice (some ⟨k, 0, none⟩) (n + 1) cap))) := ⟨k, cap, hR3, ho3, hT3, hk', hkL⟩
  clear hR3 hT3 ho3 hk' hk hT hT2 ho2 ho hv hg1 hne r1
  have e1 : IntKind.i32.wrap (n : Int) = n := by rw [wrap_i32_small _ (by omega) (by omega)]
  go_enter Yba.func30, Yba.ntmps30
  go_wp2_with first
    | (at_builtin; refine wpList_app_run rfl (.tmp 10) (.tmp 12) 37 rfl v (.slice (some ⟨w.heap.size, 0, none⟩) 1 1) rfl rfl (.slice (some ⟨k, 0, none⟩) (n + 1) cap) w2 hr ?_)
    | (go_at_call 41; refine hsp.mono ?_; rintro e w' ⟨rfl, rfl⟩)
  go_ret
  exact ⟨rfl, HF.out⟩
end Go.Proofs.Ybulkcrkq
