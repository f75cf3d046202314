/- Two slices of bytes held against one another; the decimal, digit by digit. -/
import Derived.Test.YbulkcruiDoorGrow
import Derived.Laws.IdiomStrings
namespace Go.Proofs.YbulkcruiDoor
open Go.ChangeShapes Go.WideShapes Go.ChangeAt Go.RowKit
set_option maxHeartbeats 1000000
set_option maxRecDepth 20000
set_option linter.unusedVariables false

theorem byteseq_same (f : Nat → Int) (hf : ∀ j, 0 ≤ f j ∧ f j ≤ 255) (a1 a2 : Option Addr) (n c1 c2 : Nat) (hn : n ≤ 1024) (w : World) (h1 : Shows .u8 f a1 n w) (h2 : Shows .u8 f a2 n w) :
    Calls Ybad.prog 5 #[.slice a1 n c1, .slice a2 n c2] w fun e w' => e = .returned (.bool true) ∧ Below w.heap.size w w' := by
  go_enter Ybad.func5, Ybad.ntmps5
  go_wp2_with fail
  go_loopw [5] (fun t wr => ∃ x : Nat, t = .int .i64 x ∧ x ≤ n ∧ Below w.heap.size w wr) (fun t _ => n - (intOf t).toNat)
  case atStart => exact ⟨0, rfl, Nat.zero_le _, Below.refl _ _⟩
  case round =>
    obtain ⟨x, rfl, hx, hb⟩ := hrel
    by_cases hlt : x < n
    · have s1 := h1.below hb
      have s2 := h2.below hb
      rcases s1 with h | ⟨b1, o1, rfl, hb1, hc1⟩
      · omega
      · rcases s2 with h | ⟨b2, o2, rfl, hb2, hc2⟩
        · omega
        · have e1 := hc1 x hlt
          have e2 := hc2 x hlt
          clear hc1 hc2
          go_wp2_with fail
          go_quiet (fail)
          go_wp2_with fail
          go_roundw
          case rel => exact ⟨x + 1, by go_num, by omega, ⟨hb.os, hb.tape, hb.output, hb.size, fun b hb' => hb.block b hb'⟩⟩
          case measure => simp [intOf]; omega
    · go_wp2_with fail
      go_ret
      exact ⟨rfl, hb⟩

theorem dec_step (n : Nat) (h : ¬ n < 10) : Lib.decDigits n = Lib.decDigits (n / 10) ++ [UInt8.ofNat (48 + n % 10)] := by
  rw [Lib.decDigits, dif_neg h]

theorem digit_cell (n : Nat) : (Value.int .u8 (48 + (n : Int) % 10)) = .int .u8 ((UInt8.ofNat (48 + n % 10)).toNat : Int) := by
  have h : (UInt8.ofNat (48 + n % 10)).toNat = 48 + n % 10 := by
    rw [UInt8.toNat_ofNat']
    omega
  rw [h]
  congr 1

/-- One byte ahead of a row of the call's own. -/
theorem prepend (w : World) (B n : Nat) (hB : B ≤ w.heap.size) (hn : n ≤ 1024) (v : Value) (xs : List Value) (h1 : ∀ u ∈ xs, u.oneCell' = true) (ho : w.ownsRow B 5 1 v n xs) (hv : (v = .slice none 0 0 ∧ n = 0) ∨ 0 < n) (u : Value) :
    ∃ g c w', (∀ ty, (Builtin.append_ #[23, 23] ty #[.slice (some ⟨w.heap.size, 0, none⟩) 1 1, v]).run Ybad.prog (w.alloc (.cells #[u] 5)) = .ok (.slice (some ⟨g, 0, none⟩) (n + 1) c) w') ∧ w'.ownsRow B 5 1 (.slice (some ⟨g, 0, none⟩) (n + 1) c) (n + 1) (u :: xs) ∧ Below B w w' := by
  obtain ⟨i5, e1, e2, e3, e4⟩ := info_parts info5
  have hl := World.ownsRow_lit (base := B) (e := 5) (size := 1) w #[u] 1 hB (by unfold maxLen; omega) rfl
  have hba : Below B w (w.alloc (.cells #[u] 5)) := (Below.refl _ _).alloc hB _
  rcases ho.2 with ⟨rfl, rfl⟩ | ⟨g, cap, cur, rfl, hb, hg, hrest⟩
  · have hx : xs = [] := List.eq_nil_of_length_eq_zero (by simpa using ho.1)
    subst hx
    refine ⟨w.heap.size, 1, _, fun ty => run_append_owned_none (P := Ybad.prog) (w := w.alloc (.cells #[u] 5)) B 23 ty 5 i5 1 Ybad.underlying23 e1 _ 1 _ hl, hl, hba⟩
  · have hn0 : 0 < n := by
      rcases hv with ⟨h, _⟩ | h
      · cases h
      · exact h
    have ho' : (w.alloc (.cells #[u] 5)).ownsRow B 5 1 (.slice (some ⟨g, 0, none⟩) n cap) n xs := ho.alloc _
    have hx : xs.length = n := by simpa using ho.1
    have hfit : Builtin.nextslicecap (1 + n) 1 * i5.bytes ≤ 281474976710656 := by
      rw [e4]
      have := nextslicecap_le (need := 1 + n) (old := 1) (by omega)
      omega
    have hr := fun ty => run_append_grow (P := Ybad.prog) (w.alloc (.cells #[u] 5)) 23 ty 5 i5 (.int .u8 0) Ybad.underlying23 e1 e2 ⟨w.heap.size, 0, none⟩ 1 1 [u] (by rw [e3]; rfl) (cell_add0 _ _ _ (cell_new_at _ _ _ _ rfl)) ⟨g, 0, none⟩ n cap xs (by rw [e3]; omega) (ho'.cells rfl) (by omega) (by omega) hfit
    have hge := grownCap_ge (w.alloc (.cells #[u] 5)) (1 + n) 1 5
    have hcm := grownCap_le_maxLen (w.alloc (.cells #[u] 5)) (1 + n) 1 5 (by unfold maxLen; omega)
    have e0 : 1 + n = n + 1 := by omega
    simp only [e0] at hr hge hcm
    refine ⟨_, _, _, hr, ⟨by simp [hx], .inr ⟨_, _, _, rfl, ?_, heap_alloc_new (w.alloc (.cells #[u] 5)).drew _, hge, hcm, ?_, ?_⟩⟩, ?_⟩
    · simp; omega
    · simp [size_zeroCells, hx, Value.cells]
      omega
    · have h1 : ([u].toArray ++ xs.toArray ++ Builtin.zeroCells (Value.int .u8 0).cells (grownCap (w.alloc (.cells #[u] 5)) (n + 1) 1 5 - (n + 1))).toList = (u :: xs) ++ (Builtin.zeroCells (Value.int .u8 0).cells (grownCap (w.alloc (.cells #[u] 5)) (n + 1) 1 5 - (n + 1))).toList := by simp
      rw [h1, show (n + 1) * 1 = (u :: xs).length by simp [hx]]
      exact List.take_left
    · have h2 : Below B w (w.alloc (.cells #[u] 5)).drew := ⟨hba.os, hba.tape, hba.output, hba.size, fun b hb => hba.block b hb⟩
      exact h2.alloc (by simp; omega) _

theorem itoa_any (n0 : Nat) (hn0 : n0 ≤ 1024) (w : World) :
    Calls Ybad.prog 6 #[.int .i64 n0] w fun e w' => e = .returned (.string ⟨(Lib.decDigits n0).toArray⟩) ∧ Below w.heap.size w w' := by
  by_cases h0 : n0 = 0
  · subst h0
    have hd : Lib.decDigits 0 = [48] := by rw [Lib.decDigits_one (by omega)]; rfl
    rw [hd]
    go_enter Ybad.func6, Ybad.ntmps6
    go_wp2_with fail
    go_ret
    exact ⟨rfl, Below.refl _ _⟩
  · go_enter Ybad.func6, Ybad.ntmps6
    have hb0 : ((n0 : Int) == 0) = false := by simp; omega
    go_wp2_with fail
    go_loopw [0, 3] (fun t s wr => ∃ (x : Nat) (ds : List UInt8), t = .int .i64 x ∧ x ≤ n0 ∧ (0 < x → Lib.decDigits n0 = Lib.decDigits x ++ ds) ∧ (x = 0 → Lib.decDigits n0 = ds) ∧ ds.length ≤ n0 - x ∧ wr.ownsRow w.heap.size 5 1 s ds.length (Lib.byteCells ds) ∧ ((s = .slice none 0 0 ∧ ds.length = 0) ∨ ∃ g c, s = .slice (some ⟨g, 0, none⟩) ds.length c ∧ 0 < ds.length) ∧ Below w.heap.size w wr) (fun t _ _ => (intOf t).toNat)
    case atStart => exact ⟨n0, [], rfl, Nat.le_refl _, fun _ => by simp, fun h => absurd h h0, by simp, World.ownsRow_nil _ _ _ _, .inl ⟨rfl, rfl⟩, Below.refl _ _⟩
    case round =>
      obtain ⟨x, ds, rfl, hx, hp, hz, hl, ho, hs, hb⟩ := hrel
      by_cases hpos : 0 < x
      · have hbw := hb.size
        have hv : (u3 = .slice none 0 0 ∧ ds.length = 0) ∨ 0 < ds.length := by
          rcases hs with h | ⟨_, _, _, h⟩
          · exact .inl h
          · exact .inr h
        obtain ⟨g, c, w2, hr, ho2, hb2⟩ := prepend wr w.heap.size ds.length hbw (by omega) _ _ (one_bytes ds) ho hv (.int .u8 (48 + (x : Int) % 10))
        have m0 := Int.emod_nonneg (x : Int) (show (10 : Int) ≠ 0 by omega)
        have m1 := Int.emod_lt_of_pos (x : Int) (show (0 : Int) < 10 by omega)
        have fin : Hid (∃ ds' : List UInt8, (0 < x / 10 → Lib.decDigits n0 = Lib.decDigits (x / 10) ++ ds') ∧ (x / 10 = 0 → Lib.decDigits n0 = ds') ∧ ds'.length = ds.length + 1 ∧ w2.ownsRow w.heap.size 5 1 (.slice (some ⟨g, 0, none⟩) (ds.length + 1) c) (ds.length + 1) (Lib.byteCells ds')) := by
          refine ⟨UInt8.ofNat (48 + x % 10) :: ds, fun h => ?_, fun h => ?_, rfl, ?_⟩
          · rw [hp hpos, dec_step x (by omega)]; simp
          · rw [hp hpos, Lib.decDigits_one (by omega), show x % 10 = x by omega]; rfl
          · rw [digit_cell] at ho2; exact ho2
        have hl' : ds.length + 1 ≤ n0 - x / 10 := by omega
        have hxd : x / 10 < x := by omega
        clear hp hz ho hs hv ho2
        go_wp2_with (at_builtin; refine wpList_app_run rfl (.tmp 12) (.tmp 13) 23 rfl (.slice (some ⟨wr.heap.size, 0, none⟩) 1 1) u3 rfl rfl (.slice (some ⟨g, 0, none⟩) (ds.length + 1) c) w2 hr ?_)
        go_roundw
        case rel =>
          obtain ⟨ds', f1, f2, f3, f4⟩ := fin.out
          exact ⟨x / 10, ds', by go_num, by omega, f1, f2, by omega, by rw [f3]; exact f4, .inr ⟨g, c, by rw [f3], by omega⟩, hb.trans hb2⟩
        case measure => simp [intOf]; omega
      · have hd := hz (by omega)
        rcases hs with ⟨rfl, h⟩ | ⟨g, c, rfl, h⟩
        · exfalso
          have h1 := Lib.decDigits_length n0
          have h2 := Lib.nDigits_pos n0
          rw [hd] at h1
          omega
        · have hc : ∀ j (hj : j < ds.length), wr.cell? ((⟨g, 0, none⟩ : Addr).add j) = some (.int .u8 (ds[j].toNat : Int)) := by
            intro j hj
            refine ho.cells rfl j _ ?_
            simp [Lib.byteCells, hj]
          have hcv := run_convert_bytes_back (P := Ybad.prog) wr 23 9 5 ⟨g, 0, none⟩ c ds Ybad.underlying23 Ybad.underlying5 Ybad.underlying9 hc
          have HD : Hid (Lib.decDigits n0 = ds) := hd
          clear hz hp hd hc ho
          go_wp2_with fail
          go_ret
          exact ⟨by rw [HD.out]; rfl, hb⟩
end Go.Proofs.YbulkcruiDoor
