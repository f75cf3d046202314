/- build: the holders of the specification. -/
import Derived.Test.YbulkcrkqOfAge
namespace Go.Proofs.Ybulkcrkq
open Go.ChangeShapes Go.WideShapes Go.ChangeAt Go.RowKit
set_option maxHeartbeats 4000000
set_option maxRecDepth 20000
set_option linter.unusedVariables false

/-- A new core. -/
def NewCore (c : Nat) (wd id : Int) (w : World) : Prop := OkKey w (key c) ∧ w.cell? ⟨c, 35, none⟩ = some (.int .u32 wd) ∧ w.cell? ⟨c, 37, none⟩ = some (.int .u64 id)

theorem NewCore.turned {c : Nat} {wd id : Int} {w w' : World} {T : Nat → Prop} (h : NewCore c wd id w) (hT : Turned w w' T) (hc : ¬ T c) : NewCore c wd id w' := ⟨h.1.turned hT hc, hT.cell h.2.1 hc, hT.cell h.2.2 hc⟩

/-- The state of build behind i holders, whose cores are cl. -/
structure Building (w : World) (I M : Nat → Int) (W : Nat → Bool) (s i : Nat) (cl : List Nat) (hv mv : Value) (wr : World) : Prop where
  len : cl.length = i
  nd : cl.Nodup
  new : ∀ c, c ∈ cl → w.heap.size ≤ c
  core : ∀ j, j < i → NewCore (cl.getD j 0) (if W j then 1 else 0) (I j % 16 + 1) wr
  hs : wr.ownsRow w.heap.size 23 1 hv i (cl.map cptr)
  ms : wr.ownsRow w.heap.size 26 1 mv i ((List.range i).map (fun j => .int .u8 (M j % 5 + 1)))
  set : ∃ oth m cnt v, HSet wr s (cl.head?.map (fun c => ⟨c, 0, none⟩)) (if i = 0 then 0 else M 0 % 5 + 1) oth m cnt none (cl.tail.map key) v ∧ (∀ j, 1 ≤ j → j < i → (v (key (cl.getD j 0))).1 = M j % 5 + 1) ∧ (∀ k, 0 ≤ (v k).1 ∧ (v k).1 ≤ 5) ∧ (∀ o, oth = some o → w.heap.size ≤ o ∧ w.heap.size ≤ m)
  news : w.heap.size ≤ s
  turn : Turned w wr (fun _ => False)

theorem make37 (n : Nat) (hn : n ≤ 10000) (w : World) :
    (Instr.makeSlice 37 (.int .i64 0) (.int .i64 (n : Int))).run Yba.prog w = .ok (.slice (some ⟨w.heap.size, 0, none⟩) 0 n) (w.alloc (.cells (madeCells #[.pointer none] n) 23)) := by
  obtain ⟨i0, hi, he⟩ := Option.map_eq_some_iff.1 info23
  simp only [Prod.mk.injEq] at he
  obtain ⟨hz0, hzs, hz2⟩ := he
  have h := run_make (P := Yba.prog) w 37 23 i0 (.pointer none) Yba.underlying37 hi hz0 .i64 .i64 0 (n : Int) (by omega) (by omega) (by rw [hz2]; omega) (by omega)
  rw [h]
  simp [hzs, Value.cells]

theorem make38 (n : Nat) (hn : n ≤ 10000) (w : World) :
    (Instr.makeSlice 38 (.int .i64 0) (.int .i64 (n : Int))).run Yba.prog w = .ok (.slice (some ⟨w.heap.size, 0, none⟩) 0 n) (w.alloc (.cells (madeCells #[.int .u8 0] n) 26)) := by
  obtain ⟨i0, hi, he⟩ := Option.map_eq_some_iff.1 info26
  simp only [Prod.mk.injEq] at he
  obtain ⟨hz0, hzs, hz2⟩ := he
  have h := run_make (P := Yba.prog) w 38 26 i0 (.int .u8 0) Yba.underlying38 hi hz0 .i64 .i64 0 (n : Int) (by omega) (by omega) (by rw [hz2]; omega) (by omega)
  rw [h]
  simp [hzs, Value.cells]

theorem own_ne_row {w : World} {base : Nat} {e e' : TypeId} {size : Nat} {v : Value} {n n' : Nat} {xs : List Value} {b : Nat} {g : Nat → Value} (h : w.ownsRow base e size v n xs) (hR : RowAt w b e' n' g) (he : e ≠ e') : v.ownBlock ≠ some b := by
  intro hb
  rcases h.2 with ⟨rfl, _⟩ | ⟨k, cap, cur, rfl, _, hk, _⟩
  · simp [Value.ownBlock] at hb
  · simp [Value.ownBlock] at hb
    subst hb
    obtain ⟨C, hC, _⟩ := hR
    rw [hk] at hC
    cases hC
    exact he rfl

theorem own_ne_map {w : World} {base : Nat} {e : TypeId} {size : Nat} {v : Value} {n : Nat} {xs : List Value} {m : Nat} {ks : List (Option Addr)} {u : Option Addr → Int × Int} (h : w.ownsRow base e size v n xs) (hM : MapIs w m ks u) : v.ownBlock ≠ some m := by
  intro hb
  rcases h.2 with ⟨rfl, _⟩ | ⟨k, cap, cur, rfl, _, hk, _⟩
  · simp [Value.ownBlock] at hb
  · simp [Value.ownBlock] at hb
    subst hb
    obtain ⟨es, hC, _⟩ := hM.block
    rw [hk] at hC
    cases hC

theorem own_ne_core {w : World} {base : Nat} {e : TypeId} {size : Nat} {v : Value} {n : Nat} {xs : List Value} {c : Nat} (h : w.ownsRow base e size v n xs) (hc : OkKey w (key c)) (he : e ≠ 88) : v.ownBlock ≠ some c := by
  intro hb
  rcases h.2 with ⟨rfl, _⟩ | ⟨k, cap, cur, rfl, _, hk, _⟩
  · simp [Value.ownBlock] at hb
  · simp [Value.ownBlock] at hb
    subst hb
    obtain ⟨b, C, e1, hC⟩ := hc
    cases e1
    rw [hk] at hC
    cases hC
    exact he rfl

/-- A holder set stays under writes to blocks that are none of its own. -/
theorem hset_keep {w w' : World} {s : Nat} {first : Option Addr} {fm : Int} {oth : Option Nat} {m : Nat} {cnt : Nat → Int} {age : Option Addr} {ks : List (Option Addr)} {v : Option Addr → Int × Int} {T : Nat → Prop} (h : HSet w s first fm oth m cnt age ks v) (hT : Turned w w' T)
    (h1 : ¬ T s) (h2 : ∀ c, OkKey w (key c) → ¬ T c) (h3 : ∀ o, oth = some o → ¬ T o ∧ ¬ T m) : HSet w' s first fm oth m cnt age ks v := by
  have hk : ∀ k, OkKey w k → OkKey w' k := by
    intro k hk
    cases k with
    | none => trivial
    | some a =>
      obtain ⟨b, C, rfl, hb⟩ := hk
      exact OkKey.turned (c := b) ⟨b, C, rfl, hb⟩ hT (h2 b ⟨b, C, rfl, hb⟩)
  refine ⟨hT.row h.row h1, hk _ h.okf, fun k hk' => hk k (h.keys k hk'), fun o ho => ?_, h.none⟩
  obtain ⟨a, b, d⟩ := h.some o ho
  exact ⟨hT.row a (h3 o ho).1, b.of_block (hT.block m b.lt (h3 o ho).2), d⟩

theorem getD_snoc (cl : List Nat) (c j : Nat) (hj : j < cl.length) : (cl ++ [c]).getD j 0 = cl.getD j 0 := by
  simp [List.getD, List.getElem?_append, hj]
theorem getD_last (cl : List Nat) (c : Nat) : (cl ++ [c]).getD cl.length 0 = c := by
  simp [List.getD]

/-- put's blocks are none of a row's, none of a core's. -/
theorem ownB_not {w : World} {s : Nat} {first : Option Addr} {fm : Int} {oth : Option Nat} {m : Nat} {cnt : Nat → Int} {age : Option Addr} {ks : List (Option Addr)} {v : Option Addr → Int × Int} (h : HSet w s first fm oth m cnt age ks v) {b : Nat} (h1 : b ≠ s) (h2 : ∀ o, oth = some o → b ≠ o ∧ b ≠ m) : ¬ OwnB s oth m b := by
  rintro (e | ⟨o, ho, e | e⟩)
  · exact h1 e
  · exact (h2 o ho).1 e
  · exact (h2 o ho).2 e

theorem own_ne_own {w : World} {base base' : Nat} {e e' : TypeId} {size size' : Nat} {v v' : Value} {n n' : Nat} {xs xs' : List Value} (h : w.ownsRow base e size v n xs) (h' : w.ownsRow base' e' size' v' n' xs') (he : e ≠ e') : ∀ k, v.ownBlock = some k → ¬ v'.ownBlock = some k := by
  intro k hk hk'
  rcases h.2 with ⟨rfl, _⟩ | ⟨k1, cap, cur, rfl, _, h1, _⟩
  · simp [Value.ownBlock] at hk
  · rcases h'.2 with ⟨rfl, _⟩ | ⟨k2, cap2, cur2, rfl, _, h2, _⟩
    · simp [Value.ownBlock] at hk'
    · simp [Value.ownBlock] at hk hk'
      subst hk
      subst hk'
      rw [h1] at h2
      cases h2
      exact he rfl

theorem key_inj {a b : Nat} (h : key a = key b) : a = b := by
  unfold key at h
  cases h
  rfl

theorem building_step {w : World} {I M : Nat → Int} {W : Nat → Bool} {s i : Nat} {cl : List Nat} {hv mv : Value} {wr : World} (hB : Building w I M W s i cl hv mv wr) (hM : ∀ j, 0 ≤ M j ∧ M j ≤ 255)
    {oth : Option Nat} {m : Nat} {cnt : Nat → Int} {v : Option Addr → Int × Int} (hS : HSet wr s (cl.head?.map (fun c => ⟨c, 0, none⟩)) (if i = 0 then 0 else M 0 % 5 + 1) oth m cnt none (cl.tail.map key) v) (hv1 : ∀ j, 1 ≤ j → j < i → (v (key (cl.getD j 0))).1 = M j % 5 + 1) (hv2 : ∀ k, 0 ≤ (v k).1 ∧ (v k).1 ≤ 5) (hv3 : ∀ o, oth = some o → w.heap.size ≤ o ∧ w.heap.size ≤ m)
    {c : Nat} {wc wp : World} (hc : wr.heap.size ≤ c) (TC : Turned wr wc (fun _ => False)) (hN : NewCore c (if W i then 1 else 0) (I i % 16 + 1) wc)
    {oth' : Option Nat} {m' : Nat} {cnt' : Nat → Int} (hP : HSet wp s (pF (cl.head?.map (fun c => ⟨c, 0, none⟩)) (key c)) (pM (cl.head?.map (fun c => ⟨c, 0, none⟩)) (if i = 0 then 0 else M 0 % 5 + 1) (key c) (M i % 5 + 1)) oth' m' cnt' none (pK (cl.head?.map (fun c => ⟨c, 0, none⟩)) (cl.tail.map key) (key c)) (pV (cl.head?.map (fun c => ⟨c, 0, none⟩)) v (key c) (M i % 5 + 1))) (TP : Turned wc wp (OwnB s oth m))
    (hor : ∀ o, oth' = some o → ((oth = some o ∧ m' = m) ∨ (wc.heap.size ≤ o ∧ wc.heap.size ≤ m'))) :
    (wp.ownsRow w.heap.size 23 1 hv i (cl.map cptr) ∧ wp.ownsRow w.heap.size 26 1 mv i ((List.range i).map (fun j => .int .u8 (M j % 5 + 1))) ∧ w.heap.size ≤ wp.heap.size) ∧
    ∀ (hv' mv' : Value) (w1 w2 : World), w1.ownsRow w.heap.size 23 1 hv' (i + 1) (cl.map cptr ++ [.pointer (some ⟨c, 0, none⟩)]) → Turned (wp.alloc (.cells #[.pointer (some ⟨c, 0, none⟩)] 23)) w1 (fun b => hv.ownBlock = some b) →
      w2.ownsRow w.heap.size 26 1 mv' (i + 1) ((List.range i).map (fun j => .int .u8 (M j % 5 + 1)) ++ [.int .u8 (M i % 5 + 1)]) → Turned (w1.alloc (.cells #[.int .u8 (M i % 5 + 1)] 26)) w2 (fun b => mv.ownBlock = some b) →
      Building w I M W s (i + 1) (cl ++ [c]) hv' mv' w2 := by
  have hSc : HSet wc s _ _ oth m cnt none _ v := hset_keep hS TC (fun h => h) (fun _ _ h => h) (fun _ _ => ⟨fun h => h, fun h => h⟩)
  have hsc := hB.hs.turned TC (fun _ _ h => h)
  have msc := hB.ms.turned TC (fun _ _ h => h)
  have n1 : ∀ k, hv.ownBlock = some k → ¬ OwnB s oth m k := fun k hk => ownB_not hSc (fun e => own_ne_row hsc hSc.row (by decide) (e ▸ hk)) (fun o ho => ⟨fun e => own_ne_row hsc (hSc.some o ho).1 (by decide) (e ▸ hk), fun e => own_ne_map hsc (hSc.some o ho).2.1 (e ▸ hk)⟩)
  have n2 : ∀ k, mv.ownBlock = some k → ¬ OwnB s oth m k := fun k hk => ownB_not hSc (fun e => own_ne_row msc hSc.row (by decide) (e ▸ hk)) (fun o ho => ⟨fun e => own_ne_row msc (hSc.some o ho).1 (by decide) (e ▸ hk), fun e => own_ne_map msc (hSc.some o ho).2.1 (e ▸ hk)⟩)
  have n3 : ∀ k, OkKey wc (key k) → ¬ OwnB s oth m k := fun k hk => ownB_not hSc (core_ne_row hk hSc.row (by decide)) (fun o ho => ⟨core_ne_row hk (hSc.some o ho).1 (by decide), core_ne_map hk (hSc.some o ho).2.1⟩)
  have hsp := hsc.turned TP n1
  have msp := msc.turned TP n2
  have szr := hB.turn.size
  have szc := TC.size
  have szp := TP.size
  refine ⟨⟨hsp, msp, by omega⟩, ?_⟩
  intro hv' mv' w1 w2 o1 T1 o2 T2
  have A1 : Turned wp w1 (fun b => hv.ownBlock = some b) := ((Turned.refl wp _).alloc _).trans (T1.mono (fun _ _ h => .inl h))
  have A2 : Turned w1 w2 (fun b => mv.ownBlock = some b) := ((Turned.refl w1 _).alloc _).trans (T2.mono (fun _ _ h => .inl h))
  have hcore : ∀ k wd id, NewCore k wd id wc → NewCore k wd id w2 := by
    intro k wd id hk
    have hp := hk.turned TP (n3 k hk.1)
    have h1 := hp.turned A1 (own_ne_core hsp hp.1 (by decide))
    exact h1.turned A2 (own_ne_core (msp.turned A1 (own_ne_own msp hsp (by decide))) h1.1 (by decide))
  have ms1 := msp.turned A1 (own_ne_own msp hsp (by decide))
  have hcl : ∀ a, a ∈ cl → a < wr.heap.size := by
    intro a ha
    obtain ⟨j, hj, rfl⟩ := List.getElem_of_mem ha
    have e1 : cl.getD j 0 = cl[j] := by simp [List.getD, hj]
    rw [← e1]
    exact (hB.core j (by rw [← hB.len]; exact hj)).1.lt
  have hcn : c ∉ cl := fun h => by have := hcl c h; omega
  have hP1 : HSet w1 s _ _ oth' m' cnt' none _ _ := hset_keep hP A1 (own_ne_row hsp hP.row (by decide)) (fun k hk => own_ne_core hsp hk (by decide)) (fun o ho => ⟨own_ne_row hsp (hP.some o ho).1 (by decide), own_ne_map hsp (hP.some o ho).2.1⟩)
  have hP2 : HSet w2 s _ _ oth' m' cnt' none _ _ := hset_keep hP1 A2 (own_ne_row ms1 hP1.row (by decide)) (fun k hk => own_ne_core ms1 hk (by decide)) (fun o ho => ⟨own_ne_row ms1 (hP1.some o ho).1 (by decide), own_ne_map ms1 (hP1.some o ho).2.1⟩)
  have hlen := hB.len
  have hMi := hM i
  refine ⟨by simp [hlen], ?_, ?_, ?_, ?_, ?_, ?_, hB.news, ?_⟩
  · exact List.nodup_append.2 ⟨hB.nd, by simp, fun a ha b hb' => by simp at hb'; subst hb'; exact fun e => hcn (e ▸ ha)⟩
  · intro a ha
    rcases List.mem_append.1 ha with ha | ha
    · exact hB.new a ha
    · simp at ha
      subst ha
      omega
  · intro j hj
    by_cases e : j = i
    · subst e
      rw [← hlen, getD_last, hlen]
      exact hcore _ _ _ hN
    · rw [getD_snoc _ _ _ (by omega)]
      exact hcore _ _ _ ((hB.core j (by omega)).turned TC (fun h => h))
  · rw [List.map_append]
    exact o1.turned A2 (own_ne_own o1 ms1 (by decide))
  · rw [List.range_succ, List.map_append]
    exact o2
  · by_cases e0 : i = 0
    · have hcl0 : cl = [] := List.length_eq_zero_iff.1 (by omega)
      subst e0
      subst hcl0
      have e2 : pV none v (key c) (M 0 % 5 + 1) = v := by simp [pV]
      refine ⟨oth', m', cnt', v, ?_, ?_, ?_, ?_⟩
      · have e1 : ∀ x : Int, pM none x (key c) (M 0 % 5 + 1) = M 0 % 5 + 1 := fun x => by simp [pM]
        have hP3 := hP2
        simp only [List.head?_nil, Option.map_none, e1, e2] at hP3
        exact hP3
      · intro j h1 h2
        omega
      · exact hv2
      · intro o ho
        rcases hor o ho with ⟨h1, h2⟩ | ⟨h1, h2⟩
        · rw [h2]; exact hv3 o h1
        · exact ⟨by omega, by omega⟩
    · obtain ⟨a, rest, hcl1⟩ : ∃ a rest, cl = a :: rest := by
        cases cl with
        | nil => simp at hlen; omega
        | cons a rest => exact ⟨a, rest, rfl⟩
      subst hcl1
      have hac : ¬ (some (⟨a, 0, none⟩ : Addr) = key c) := fun h => hcn (by rw [← key_inj (a := a) (b := c) h]; simp)
      have eF : pF (some (⟨a, 0, none⟩ : Addr)) (key c) = some ⟨a, 0, none⟩ := by simp [pF]
      have eM : pM (some (⟨a, 0, none⟩ : Addr)) (if i = 0 then 0 else M 0 % 5 + 1) (key c) (M i % 5 + 1) = M 0 % 5 + 1 := by simp [pM, hac, e0]
      have hin : ¬ key c ∈ rest.map key := by
        intro h
        obtain ⟨b, hb, e⟩ := List.mem_map.1 h
        exact hcn (by rw [← key_inj e]; exact List.mem_cons_of_mem _ hb)
      have eK : pK (some (⟨a, 0, none⟩ : Addr)) (rest.map key) (key c) = (rest ++ [c]).map key := by simp [pK, hac, ins, hin]
      have eV : pV (some (⟨a, 0, none⟩ : Addr)) v (key c) (M i % 5 + 1) = updv v (key c) ((M i % 5 + 1), 0) := by simp [pV, hac]
      have hP3 := hP2
      simp only [List.head?_cons, Option.map_some, List.tail_cons, eF, eM, eK, eV] at hP3
      refine ⟨oth', m', cnt', updv v (key c) ((M i % 5 + 1), 0), ?_, ?_, ?_, ?_⟩
      · simpa using hP3
      · intro j h1 h2
        by_cases e : j = i
        · subst e
          rw [show j = (a :: rest).length from hlen.symm, getD_last, hlen]
          simp [updv]
        · rw [getD_snoc _ _ _ (by omega)]
          have hne : ¬ key ((a :: rest).getD j 0) = key c := fun h => hcn (by rw [← key_inj h]; exact getD_mem (by omega))
          simp only [updv, hne, if_false]
          exact hv1 j h1 (by omega)
      · intro k
        unfold updv
        split
        · show 0 ≤ (M i % 5 + 1) ∧ (M i % 5 + 1) ≤ 5
          omega
        · exact hv2 k
      · intro o ho
        rcases hor o ho with ⟨h1, h2⟩ | ⟨h1, h2⟩
        · rw [h2]; exact hv3 o h1
        · exact ⟨by omega, by omega⟩
  · have t1 : Turned w wc (fun _ => False) := hB.turn.trans (TC.mono (fun _ _ h => h.elim))
    have t2 : Turned w wp (fun _ => False) := t1.trans (TP.mono (fun b _ h => .inr (by
      rcases h with rfl | ⟨o, ho, rfl | rfl⟩
      · exact hB.news
      · exact (hv3 _ ho).1
      · exact (hv3 _ ho).2)))
    have t3 : Turned w w1 (fun _ => False) := t2.trans (A1.mono (fun b _ h => .inr (hsp.lt b h).1))
    exact t3.trans (A2.mono (fun b _ h => .inr (ms1.lt b h).1))

theorem building_start (w : World) (I M : Nat → Int) (W : Nat → Bool) (n : Nat) (hn : n ≤ 1000) :
    Building w I M W w.heap.size 0 [] (.slice (some ⟨w.heap.size + 1, 0, none⟩) 0 n) (.slice (some ⟨w.heap.size + 1 + 1, 0, none⟩) 0 n) (((w.alloc (.cells #[.pointer none, .int .u8 0, .pointer none] 91)).alloc (.cells (madeCells #[.pointer none] n) 23)).alloc (.cells (madeCells #[.int .u8 0] n) 26)) := by
  have h1 : RowAt (w.alloc (.cells #[.pointer none, .int .u8 0, .pointer none] 91)) w.heap.size 91 3 (hsRow none 0 none) := by
    refine row_lit w _ 91 3 rfl _ (fun j hj => ?_)
    have h : j = 0 ∨ j = 1 ∨ j = 2 := by omega
    rcases h with rfl | rfl | rfl <;> rfl
  have h2 := World.ownsRow_made (base := w.heap.size) (e := 23) (size := 1) (w.alloc (.cells #[.pointer none, .int .u8 0, .pointer none] 91)) (madeCells #[.pointer none] n) n (by simp) (by unfold maxLen; omega) (by rw [size_madeCells]; omega)
  have h3 := World.ownsRow_made (base := w.heap.size) (e := 26) (size := 1) ((w.alloc (.cells #[.pointer none, .int .u8 0, .pointer none] 91)).alloc (.cells (madeCells #[.pointer none] n) 23)) (madeCells #[.int .u8 0] n) n (by simp; omega) (by unfold maxLen; omega) (by rw [size_madeCells]; omega)
  simp only [World.size_alloc] at h2 h3
  refine ⟨rfl, List.nodup_nil, by simp, by omega, h2.alloc _, h3, ⟨none, 0, fun _ => 0, fun _ => (0, 0), ⟨(h1.alloc _).alloc _, trivial, by simp, by simp, fun _ => ⟨rfl, fun _ => rfl⟩⟩, by omega, by simp, by simp⟩, Nat.le_refl _, (((Turned.refl _ _).alloc _).alloc _).alloc _⟩

theorem build_any (sa : Option Addr) (n sc : Nat) (I M : Nat → Int) (W : Nat → Bool) (hI : ∀ j, 0 ≤ I j ∧ I j ≤ 255) (hM : ∀ j, 0 ≤ M j ∧ M j ≤ 255) (hn : n ≤ 300) (w : World) (h : SpecAt w sa n I M W) :
    Calls Yba.prog 12 #[.slice sa n sc] w fun e w' => ∃ s cl hv mv, e = .returned (.tuple #[.pointer (some ⟨s, 0, none⟩), hv, mv]) ∧ Building w I M W s n cl hv mv w' := by
  have m37 := make37 n (by omega)
  have m38 := make38 n (by omega)
  have HB0 : Hid (Building w I M W w.heap.size 0 [] _ _ _) := building_start w I M W n (by omega)
  go_enter Yba.func12, Yba.ntmps12
  go_wp2_with fail
  go_loopw [6, 7, 21] (fun t6 t7 t21 wr => ∃ (i : Nat) (cl : List Nat), t21 = .int .i64 (i : Int) ∧ i ≤ n ∧ Building w I M W w.heap.size i cl t6 t7 wr) (fun _ _ t21 _ => n - (intOf t21).toNat)
  case atStart => exact ⟨0, [], rfl, by omega, HB0.out⟩
  case round =>
    obtain ⟨i, cl, rfl, hi, hB⟩ := hrel
    clear HB0 m37 m38
    by_cases hlt : i < n
    · rcases h.all with h0 | ⟨b, off, rfl, hb, hc⟩
      · omega
      obtain ⟨c0, c1, c2⟩ := hc i hlt
      have d0 := hB.turn.cell c0 (fun h => h)
      have d1 := hB.turn.cell c1 (fun h => h)
      have d2 := hB.turn.cell c2 (fun h => h)
      have hbr : b < wr.heap.size := Nat.lt_of_lt_of_le hb hB.turn.size
      have i1 := Int.emod_nonneg (I i) (show (16 : Int) ≠ 0 by omega)
      have i2 := Int.emod_lt_of_pos (I i) (show (0 : Int) < 16 by omega)
      have m1 := Int.emod_nonneg (M i) (show (5 : Int) ≠ 0 by omega)
      have m2 := Int.emod_lt_of_pos (M i) (show (0 : Int) < 5 by omega)
      have hIi := hI i
      have hMi := hM i
      go_upto_if 43 with fail
      go_cut [] (fun wc => Turned wr wc (fun _ => False) ∧ NewCore wr.heap.size (if W i then 1 else 0) (I i % 16 + 1) wc)
      case first =>
        cases hW : W i with
        | false =>
          have HW : Hid (W i = false) := hW
          go_wp2_with fail
          go_meet
          case rel => exact ⟨(Turned.refl _ _).alloc _, isCore_new wr _, by rw [HW.out]; simp, by simp⟩
        | true =>
          have HW : Hid (W i = true) := hW
          go_wp2_with (go_at_call 20; refine (store_any wr.heap.size 35 0 _ ?_ ?_).mono ?_; (simp); (simp); rintro e w' ⟨rfl, rfl⟩)
          go_meet
          case rel => exact ⟨((Turned.refl _ _).alloc _).drew, isCore_new wr _, by rw [HW.out]; simp, by simp⟩
      case rest =>
        obtain ⟨TC, hN⟩ := hcut
        obtain ⟨wx, hwx⟩ : ∃ wx : World, wx = wc := ⟨_, rfl⟩
        subst hwx
        have x1 := TC.cell d1 (fun h => h)
        obtain ⟨nm, hnm⟩ : ∃ nm : Nat, (nm : Int) = M i % 5 + 1 := ⟨(M i % 5 + 1).toNat, by omega⟩
        obtain ⟨oth, m, cnt, v, hS, hv1, hv2, hv3⟩ := hB.set
        have hSx := hset_keep hS TC (fun h => h) (fun _ _ h => h) (fun _ _ => ⟨fun h => h, fun h => h⟩)
        have hput := put_any hSx (key wr.heap.size) hN.1 nm (by omega) hv2
        rw [show key wr.heap.size = some ⟨wr.heap.size, 0, none⟩ from rfl] at hput
        rw [hnm] at hput
        clear hnm nm
        clear d0 d2 c0 c1 c2 hc
        have hput2 : Calls Yba.prog 11 #[.pointer (some ⟨w.heap.size, 0, none⟩), .pointer (some ⟨wr.heap.size, 0, none⟩), .int .u8 (M i % 5 + 1)] wx fun e wp => e = .returned (.tuple #[]) ∧ ∃ k1 cp1 w1 mv' w2, (∀ ty, (Builtin.append_ #[37, 37] ty #[u6, .slice (some ⟨wp.heap.size, 0, none⟩) 1 1]).run Yba.prog (wp.alloc (.cells #[.pointer (some ⟨wr.heap.size, 0, none⟩)] 23)) = .ok (.slice (some ⟨k1, 0, none⟩) (i + 1) cp1) w1) ∧
            (∀ ty, (Builtin.append_ #[38, 38] ty #[u7, .slice (some ⟨w1.heap.size, 0, none⟩) 1 1]).run Yba.prog (w1.alloc (.cells #[.int .u8 (M i % 5 + 1)] 26)) = .ok mv' w2) ∧ Hid (Building w I M W w.heap.size (i + 1) (cl ++ [wr.heap.size]) (.slice (some ⟨k1, 0, none⟩) (i + 1) cp1) mv' w2) := by
          refine hput.mono ?_
          rintro e wp ⟨rfl, oth', m', cnt', hP, TP, hor⟩
          obtain ⟨⟨q1, q2, q3⟩, hfin⟩ := building_step hB hM hS hv1 hv2 hv3 (Nat.le_refl _) TC hN hP TP hor
          obtain ⟨k1, cp1, w1, hr1, oo1, TT1, _⟩ := appendOne (wp.alloc (.cells #[.pointer (some ⟨wr.heap.size, 0, none⟩)] 23)) w.heap.size u6 i _ (by omega) (q1.alloc _) (by simp; omega) wp.heap.size ⟨wr.heap.size, 0, none⟩ (by simp)
          have q4 := (q2.alloc (.cells #[.pointer (some ⟨wr.heap.size, 0, none⟩)] 23)).turned TT1 (own_ne_own (q2.alloc _) (q1.alloc (.cells #[.pointer (some ⟨wr.heap.size, 0, none⟩)] 23)) (by decide))
          have hs1 := TT1.size
          obtain ⟨mv', w2, hr2, oo2, TT2⟩ := appendMode (w1.alloc (.cells #[.int .u8 (M i % 5 + 1)] 26)) w.heap.size u7 i _ (by omega) (q4.alloc _) (by simp at hs1 ⊢; omega) w1.heap.size (M i % 5 + 1) (by simp)
          exact ⟨rfl, k1, cp1, w1, mv', w2, hr1, hr2, hfin _ _ _ _ oo1 TT1 oo2 TT2⟩
        clear hput hS hSx hN hB TC d1
        go_wp2_with first
          | (go_at_call 11; refine hput2.mono ?_; rintro e wp ⟨rfl, k1, cp1, w1, mv', w2, hr1, hr2, HBn⟩)
          | (at_builtin; refine wpList_app_run rfl (.tmp 61) (.tmp 63) 37 rfl u6 (.slice (some ⟨wp.heap.size, 0, none⟩) 1 1) rfl rfl (.slice (some ⟨k1, 0, none⟩) (i + 1) cp1) w1 hr1 ?_)
          | (at_builtin; refine wpList_app_run rfl (.tmp 65) (.tmp 67) 38 rfl u7 (.slice (some ⟨w1.heap.size, 0, none⟩) 1 1) rfl rfl mv' w2 hr2 ?_)
        go_roundw
        case rel => exact ⟨i + 1, _, by go_num, by omega, HBn.out⟩
        case measure => simp [intOf]; omega
    · obtain rfl : i = n := by omega
      go_wp2_with fail
      exact bodyPost_ret (v := .tuple #[.pointer (some ⟨w.heap.size, 0, none⟩), u6, u7]) (by simp [results, Yba.results12, go_sem]) rfl ⟨_, cl, u6, u7, rfl, hB⟩
end Go.Proofs.Ybulkcrkq
