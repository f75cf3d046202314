/- listsByAge. -/
import Derived.Test.YbulkcrkqIter
import Derived.Deep.RegionWith
namespace Go.Proofs.Ybulkcrkq
open Go.ChangeShapes Go.WideShapes Go.ChangeAt Go.RowKit
set_option maxHeartbeats 1000000
set_option maxRecDepth 20000
set_option linter.unusedVariables false

theorem lists_old (o m L : Nat) (cnt : Nat → Int) (w : World) (hO : RowAt w o 96 8 (ohRow m cnt (some ⟨L, 0, none⟩))) :
    Calls Yba.prog 24 #[.pointer (some ⟨o, 0, none⟩)] w fun e w' => e = .returned (.pointer (some ⟨L, 0, none⟩)) ∧ w = w' := by
  have k7 := hO.cell (j := 7) (by omega)
  simp [ohRow] at k7
  go_enter Yba.func24, Yba.ntmps24
  go_wp2_with fail
  go_ret
  exact ⟨rfl, rfl⟩

/-- The cores among l that hold mode m. -/
def lsOf (md : Nat → Nat) (l : List Nat) (m : Nat) : List Nat := l.filter (fun c => md c == m)

theorem lsOf_add (md : Nat → Nat) (l : List Nat) (c : Nat) : addL (lsOf md l) (md c) c = lsOf md (l ++ [c]) := by
  funext m
  unfold addL lsOf
  by_cases e : m = md c
  · subst e
    simp
  · have : (md c == m) = false := by simpa using fun h => e h.symm
    simp [e, this]

theorem row24 (w : World) : RowAt (w.alloc (.cells #[.slice none 0 0, .slice none 0 0, .int .i64 0, .int .i64 0, .slice none 0 0, .slice none 0 0, .int .i64 0, .int .i64 0, .slice none 0 0, .slice none 0 0, .int .i64 0, .int .i64 0, .slice none 0 0, .slice none 0 0, .int .i64 0, .int .i64 0, .slice none 0 0, .slice none 0 0, .int .i64 0, .int .i64 0, .slice none 0 0, .slice none 0 0, .int .i64 0, .int .i64 0] 124)) w.heap.size 124 24
    (fun j => if j % 4 < 2 then .slice none 0 0 else .int .i64 0) := by
  refine row_lit w _ 124 24 rfl _ (fun j hj => ?_)
  have h : j = 0 ∨ j = 1 ∨ j = 2 ∨ j = 3 ∨ j = 4 ∨ j = 5 ∨ j = 6 ∨ j = 7 ∨ j = 8 ∨ j = 9 ∨ j = 10 ∨ j = 11 ∨ j = 12 ∨ j = 13 ∨ j = 14 ∨ j = 15 ∨ j = 16 ∨ j = 17 ∨ j = 18 ∨ j = 19 ∨ j = 20 ∨ j = 21 ∨ j = 22 ∨ j = 23 := by omega
  rcases h with rfl | rfl | rfl | rfl | rfl | rfl | rfl | rfl | rfl | rfl | rfl | rfl | rfl | rfl | rfl | rfl | rfl | rfl | rfl | rfl | rfl | rfl | rfl | rfl <;> rfl

theorem txns_start {w : World} {L base : Nat} {P : Nat → Prop} (md : Nat → Nat) (hR : RowAt w L 124 24 (fun j => if j % 4 < 2 then .slice none 0 0 else .int .i64 0)) : TxnsAt w L base P (lsOf md []) := by
  refine ⟨_, fun _ => .slice none 0 0, hR, fun m hm => ⟨?_, ?_, World.ownsRow_nil _ _ _ _, by simp [Value.ownBlock], fun k hk => by simp [Value.ownBlock] at hk⟩, fun m m' k _ _ _ hk => by simp [Value.ownBlock] at hk⟩
  · have : 4 * m % 4 = 0 := by omega
    simp [this]
  · have : (4 * m + 1) % 4 = 1 := by omega
    simp [this]

theorem okkey_turned {w w' : World} {o m : Nat} {n : Nat} {g : Nat → Value} {ks : List (Option Addr)} {v : Option Addr → Int × Int} {k : Option Addr} (h : OkKey w k) (hT : Turned w w' (fun b => b = o ∨ b = m)) (hO : RowAt w o 96 n g) (hM : MapIs w m ks v) : OkKey w' k :=
  h.of_blocks fun b C hb => ⟨C, by
    refine (hT.block b (Array.getElem?_eq_some_iff.1 hb).1 ?_).trans hb
    rintro (rfl | rfl)
    · obtain ⟨C', h1, _⟩ := hO
      rw [hb] at h1
      cases h1
    · obtain ⟨es, h1, _⟩ := hM.block
      rw [hb] at h1
      cases h1⟩

/-- The map's key for a core. -/
def key (c : Nat) : Option Addr := some ⟨c, 0, none⟩

/-- The state in a round of listsByAge's loop. -/
structure Listing (w : World) (o m L r base : Nat) (cnt : Nat → Int) (kc : List Nat) (v : Option Addr → Int × Int) (md : Nat → Nat) (sn dn : List Nat) (v' : Option Addr → Int × Int) (wr : World) : Prop where
  seen : ∀ c, c ∈ dn ↔ ∃ j, j ∈ sn ∧ kc[j]? = some c
  ndn : dn.Nodup
  nsn : sn.Nodup
  lim : ∀ j, j ∈ sn → j < kc.length
  iter : Iter wr r m kc.length sn
  txns : TxnsAt wr L base (fun b => b < wr.heap.size) (lsOf md dn)
  map : MapIs wr m (kc.map key) v'
  same : ∀ k, (v' k).1 = (v k).1
  oh : RowAt wr o 96 8 (ohRow m cnt (some ⟨L, 0, none⟩))
  turn : Turned w wr (fun b => b = o ∨ b = m)
  size : base ≤ wr.heap.size

theorem map_ne_row {w : World} {m o n : Nat} {e : TypeId} {g : Nat → Value} {ks : List (Option Addr)} {v : Option Addr → Int × Int} (hM : MapIs w m ks v) (hO : RowAt w o e n g) : m ≠ o := by
  intro e
  subst e
  obtain ⟨es, h1, _⟩ := hM.block
  obtain ⟨C, h2, _⟩ := hO
  rw [h1] at h2
  cases h2

theorem listing_start {o m : Nat} {cnt : Nat → Int} {kc : List Nat} {v : Option Addr → Int × Int} {w : World} (md : Nat → Nat) (hO : RowAt w o 96 8 (ohRow m cnt none)) (hM : MapIs w m (kc.map key) v) (C : Array Value)
    (hL : RowAt ((w.setCell ⟨o, 7, none⟩ (.pointer (some ⟨w.heap.size, 0, none⟩))).alloc (.cells C 124)) w.heap.size 124 24 (fun j => if j % 4 < 2 then .slice none 0 0 else .int .i64 0)) :
    Listing w o m w.heap.size (w.heap.size + 1) (w.heap.size + 2) cnt kc v md [] [] v (((w.setCell ⟨o, 7, none⟩ (.pointer (some ⟨w.heap.size, 0, none⟩))).alloc (.cells C 124)).alloc (.mapIter (some m) kc.length #[] kc.length)) := by
  have hol := hO.lt
  have hml := hM.lt
  have hmo := map_ne_row hM hO
  have hS : (w.setCell ⟨o, 7, none⟩ (.pointer (some ⟨w.heap.size, 0, none⟩))).heap.size = w.heap.size := by simp
  refine ⟨by simp, List.nodup_nil, List.nodup_nil, by simp, ?_, txns_start md (hL.alloc _), ((hM.of_block (Below.heap_setCell _ _ _ _ hmo)).of_block (Below.heap_alloc _ _ _ (by rw [hS]; exact hml))).of_block (Below.heap_alloc _ _ _ (by simp; omega)), fun _ => rfl, ?_, (((Turned.refl w _).setCell ⟨o, 7, none⟩ (.inl (.inl rfl)) _).alloc _).alloc _, by simp⟩
  · have h := iter_new ((w.setCell ⟨o, 7, none⟩ (.pointer (some ⟨w.heap.size, 0, none⟩))).alloc (.cells C 124)) m kc.length
    rw [World.size_alloc, hS] at h
    exact h
  · refine (((hO.set 7 (.pointer (some ⟨w.heap.size, 0, none⟩)) (by omega)).alloc _).alloc _).congr (fun j hj => ?_)
    have h : j = 0 ∨ j = 1 ∨ j = 2 ∨ j = 3 ∨ j = 4 ∨ j = 5 ∨ j = 6 ∨ j = 7 := by omega
    rcases h with rfl | rfl | rfl | rfl | rfl | rfl | rfl | rfl <;> simp [upd, ohRow]

/-- Behind the round's add. -/
structure Listed (w : World) (o m L r base : Nat) (cnt : Nat → Int) (kc : List Nat) (v' : Option Addr → Int × Int) (md : Nat → Nat) (sn dn : List Nat) (t4 mc : Nat) (wc : World) : Prop where
  iter : Iter wc r m kc.length sn
  txns : TxnsAt wc L base (fun b => b < wc.heap.size) (lsOf md dn)
  map : MapIs wc m (kc.map key) v'
  oh : RowAt wc o 96 8 (ohRow m cnt (some ⟨L, 0, none⟩))
  turn : Turned w wc (fun b => b = o ∨ b = m)
  size : base ≤ wc.heap.size
  held : ∃ p : Int, wc.cell? ⟨t4, 0, none⟩ = some (.int .u8 (mc : Nat)) ∧ wc.cell? ⟨t4, 1, none⟩ = some (.int .i32 p)

theorem listed_put {w wc : World} {o m L r base : Nat} {cnt : Nat → Int} {kc : List Nat} {v v' : Option Addr → Int × Int} {md : Nat → Nat} {sn dn : List Nat} {t4 c : Nat} {j : Nat} (h : Listed w o m L r base cnt kc v' md (sn ++ [j]) (dn ++ [c]) t4 (md c) wc)
    (hnd : kc.Nodup) (hj : kc[j]? = some c) (hseen : ∀ c, c ∈ dn ↔ ∃ j, j ∈ sn ∧ kc[j]? = some c) (hjs : j ∉ sn) (hn1 : dn.Nodup) (hn2 : sn.Nodup) (hlim : ∀ j, j ∈ sn → j < kc.length) (hs : ∀ k, (v' k).1 = (v k).1) (hm1 : (v (key c)).1 = (md c : Nat)) (hrm : r ≠ m) (hLm : L ≠ m) (hbm : m < base) (p : Int) :
    Listing w o m L r base cnt kc v md (sn ++ [j]) (dn ++ [c]) (updv v' (key c) ((md c : Nat), p)) (mapPut wc m (key c) (.agg #[.int .u8 (md c : Nat), .int .i32 p])).drew := by
  have hmo := map_ne_row h.map h.oh
  have T : Turned wc (mapPut wc m (key c) (.agg #[.int .u8 (md c : Nat), .int .i32 p])).drew (fun b => b = m) := ((Turned.refl wc (fun b => b = m)).mapPut m (.inl rfl) _ _).drew
  have hcm : key c ∈ kc.map key := List.mem_map.2 ⟨c, List.mem_of_getElem? hj, rfl⟩
  have hcd : c ∉ dn := by
    intro hc
    obtain ⟨i, hi, hic⟩ := (hseen c).1 hc
    have h1 := List.getElem?_eq_some_iff.1 hj
    have h2 := List.getElem?_eq_some_iff.1 hic
    have : i = j := by
      obtain ⟨h1, h1'⟩ := h1
      obtain ⟨h2, h2'⟩ := h2
      rw [← hnd.idxOf_getElem i h2, ← hnd.idxOf_getElem j h1, h1', h2']
    exact hjs (this ▸ hi)
  refine ⟨?_, ?_, ?_, ?_, h.iter.turned T (fun e => hrm e), ?_, ?_, ?_, T.row h.oh (fun e => hmo e.symm), h.turn.trans (T.mono (fun b _ e => .inl (.inr e))), Nat.le_trans h.size T.size⟩
  · intro x
    rw [List.mem_append, hseen x]
    constructor
    · rintro (⟨i, hi, hx⟩ | hx)
      · exact ⟨i, List.mem_append_left _ hi, hx⟩
      · simp at hx
        subst hx
        exact ⟨j, by simp, hj⟩
    · rintro ⟨i, hi, hx⟩
      rcases List.mem_append.1 hi with hi | hi
      · exact .inl ⟨i, hi, hx⟩
      · simp at hi
        subst hi
        rw [hj] at hx
        exact .inr (by simp [Option.some.inj hx])
  · exact List.nodup_append.2 ⟨hn1, by simp, fun a ha b hb' => by simp at hb'; subst hb'; exact fun e => hcd (e ▸ ha)⟩
  · exact List.nodup_append.2 ⟨hn2, by simp, fun a ha b hb' => by simp at hb'; subst hb'; exact fun e => hjs (e ▸ ha)⟩
  · intro i hi
    rcases List.mem_append.1 hi with hi | hi
    · exact hlim i hi
    · simp at hi
      subst hi
      exact (List.getElem?_eq_some_iff.1 hj).1
  · exact (h.txns.turned T hLm (fun b h1 h2 e => by omega)).raise
  · have hp := h.map.put (key c) (md c : Nat) p
    have e : ins (kc.map key) (key c) = kc.map key := by unfold ins; rw [if_pos hcm]
    rw [e] at hp
    exact hp.of_block rfl
  · intro k
    unfold updv
    by_cases e : k = key c
    · rw [if_pos e, e]
      exact hm1.symm
    · rw [if_neg e]
      exact hs k

theorem lists_new (o m : Nat) (cnt : Nat → Int) (kc : List Nat) (v : Option Addr → Int × Int) (md : Nat → Nat) (w : World) (hO : RowAt w o 96 8 (ohRow m cnt none)) (hM : MapIs w m (kc.map key) v) (hks : ∀ c, c ∈ kc → OkKey w (key c)) (hmd : ∀ c, c ∈ kc → (v (key c)).1 = (md c : Nat) ∧ md c < 6) (hlen : kc.length ≤ 1000) (hnd : kc.Nodup) :
    Calls Yba.prog 24 #[.pointer (some ⟨o, 0, none⟩)] w fun e w' => e = .returned (.pointer (some ⟨w.heap.size, 0, none⟩)) ∧ ∃ sn dn v', (∀ j, j < kc.length → j ∈ sn) ∧ Listing w o m w.heap.size (w.heap.size + 1) (w.heap.size + 2) cnt kc v md sn dn v' w' := by
  have k7 := hO.cell (j := 7) (by omega)
  have k0 := hO.cell (j := 0) (by omega)
  have kF := hO.frozen 7
  have hol := hO.lt
  have hml := hM.lt
  simp [ohRow] at k7 k0
  have hmo := map_ne_row hM hO
  have hrg : ∀ C : Array Value, (Instr.range 92 (.map (some m))).run Yba.prog ((w.setCell ⟨o, 7, none⟩ (.pointer (some ⟨w.heap.size, 0, none⟩))).alloc (.cells C 124)) = .ok (.pointer (some ⟨w.heap.size + 1, 0, none⟩)) (((w.setCell ⟨o, 7, none⟩ (.pointer (some ⟨w.heap.size, 0, none⟩))).alloc (.cells C 124)).alloc (.mapIter (some m) kc.length #[] kc.length)) := by
    intro C
    have h := iter_range ((hM.of_block (Below.heap_setCell _ ⟨o, 7, none⟩ (.pointer (some ⟨w.heap.size, 0, none⟩)) _ hmo)).of_block (Below.heap_alloc _ (.cells C 124) _ (by simp; exact hml)))
    rw [List.length_map] at h
    simpa using h
  have hS : (w.setCell ⟨o, 7, none⟩ (.pointer (some ⟨w.heap.size, 0, none⟩))).heap.size = w.heap.size := by simp
  have hL0 := row24 (w.setCell ⟨o, 7, none⟩ (.pointer (some ⟨w.heap.size, 0, none⟩)))
  rw [hS] at hL0
  have hst := listing_start md hO hM _ hL0
  have HST : Hid (Listing w o m w.heap.size (w.heap.size + 1) (w.heap.size + 2) cnt kc v md [] [] v _) := hst
  clear hst hL0 hS
  go_enter Yba.func24, Yba.ntmps24
  go_wp2_with fail
  go_loopw [3] (fun t wr => ∃ sn dn v', Listing w o m w.heap.size (w.heap.size + 1) (w.heap.size + 2) cnt kc v md sn dn v' wr) (fun _ wr => iterLeft kc.length (w.heap.size + 1) wr)
  case atStart => exact ⟨[], [], v, HST.out⟩
  case round =>
    obtain ⟨sn, dn, v', hLs⟩ := hrel
    clear HST k7 k0 kF hrg
    have hrm : w.heap.size + 1 ≠ m := by omega
    have hit : Iter wr (w.heap.size + 1) m (kc.map key).length sn := by rw [List.length_map]; exact hLs.iter
    rcases iter_next hit hLs.map hrm 0 with ⟨hall, hnx⟩ | ⟨j, k, wn, hk, hjs, hnx, hen, hitn, Tn⟩
    · have k7 := hLs.oh.cell (j := 7) (by omega)
      simp [ohRow] at k7
      rw [List.length_map] at hall
      have HL : Hid (∀ j, j < kc.length → j ∈ sn) := hall
      clear hall
      go_wp2_with fail
      go_ret
      exact ⟨rfl, sn, dn, v', HL.out, hLs⟩
    · rw [List.getElem?_map] at hk
      obtain ⟨c, hc, rfl⟩ := Option.map_eq_some_iff.1 hk
      have hcm := List.mem_of_getElem? hc
      obtain ⟨hm1, hm2⟩ := hmd c hcm
      have hmv := (hLs.same (key c)).trans hm1
      rw [hmv] at hnx hen
      obtain ⟨mc, hmc⟩ : ∃ mc, mc = md c := ⟨_, rfl⟩
      rw [← hmc] at hnx hen hm2 hm1
      obtain ⟨pl, hpl⟩ : ∃ pl, pl = (v' (key c)).2 := ⟨_, rfl⟩
      rw [← hpl] at hnx hen
      rw [show key c = some ⟨c, 0, none⟩ from rfl] at hnx hen
      rw [List.length_map] at hitn
      have hOn := Tn.row hLs.oh (by omega)
      have k7 := hOn.cell (j := 7) (by omega)
      simp [ohRow] at k7
      have hon := hOn.lt
      have hsz := hLs.size
      have hsz2 := Tn.size
      have Ta := ((Turned.refl wn (fun _ => False)).alloc (.cells #[.int .u8 (mc : Int), .int .i32 pl] 99)).drew
      have hTx : TxnsAt (wn.alloc (.cells #[.int .u8 (mc : Int), .int .i32 pl] 99)).drew w.heap.size (w.heap.size + 2) (fun b => b < wr.heap.size) (lsOf md dn) := (hLs.txns.turned Tn (by omega) (fun b h1 h2 => by omega)).turned Ta (fun h => h) (fun _ _ _ h => h)
      have hdl : dn.length ≤ kc.length := hLs.ndn.length_le_of_subset (fun x hx => by obtain ⟨i, _, hi⟩ := (hLs.seen x).1 hx; exact List.mem_of_getElem? hi)
      have hlen2 : (lsOf md dn mc).length ≤ 1000 := Nat.le_trans (List.length_filter_le _ _) (by omega)
      have hadd0 := txns_add hTx (by simp; omega) mc c hm2 hlen2
      have hadd : Calls Yba.prog 30 #[.pointer (some ⟨w.heap.size, mc * 4, none⟩), .pointer (some ⟨c, 0, none⟩)] (wn.alloc (.cells #[.int .u8 (mc : Int), .int .i32 pl] 99)).drew fun e w3 => ∃ p : Int, e = .returned (.int .i32 p) ∧ w3.cell? ⟨wn.heap.size, 1, none⟩ = some (.int .i32 pl) ∧ w3.frozen? ⟨wn.heap.size, 1, none⟩ = false ∧
          Hid (Listed w o m w.heap.size (w.heap.size + 1) (w.heap.size + 2) cnt kc v' md (sn ++ [j]) (dn ++ [c]) wn.heap.size mc (w3.setCell ⟨wn.heap.size, 1, none⟩ (.int .i32 p))) := by
        rw [Nat.mul_comm]
        refine hadd0.mono ?_
        rintro e w3 ⟨rfl, t1, t2⟩
        have hrow4 : RowAt (wn.alloc (.cells #[.int .u8 (mc : Int), .int .i32 pl] 99)).drew wn.heap.size 99 2 (fun i => if i = 0 then .int .u8 (mc : Int) else .int .i32 pl) := by
          refine (row_lit wn #[.int .u8 (mc : Int), .int .i32 pl] 99 2 rfl _ (fun i hi => ?_)).drew
          have h : i = 0 ∨ i = 1 := by omega
          rcases h with rfl | rfl <;> rfl
        have hrow3 := t2.row hrow4 (by omega)
        have T3 : Turned w3 (w3.setCell ⟨wn.heap.size, 1, none⟩ (.int .i32 ((lsOf md dn mc).length : Nat))) (fun b => b = wn.heap.size) := (Turned.refl w3 (fun b => b = wn.heap.size)).setCell ⟨wn.heap.size, 1, none⟩ (.inl rfl) _
        have T4 : Turned wn w3 (fun b => b = w.heap.size ∨ (w.heap.size + 2 ≤ b ∧ b < wr.heap.size)) := (Ta.mono (fun _ _ h => h.elim)).trans (t2.mono (fun b _ h => .inl h))
        have hs3 := T4.size
        have hmn := (hLs.map.of_block (Tn.block m hLs.map.lt (fun e => hrm e.symm)))
        have hm3 := hmn.of_block (T4.block m hmn.lt (by omega))
        refine ⟨_, rfl, by rw [hrow3.cell (by omega)]; rfl, hrow3.frozen 1, ?_⟩
        show Listed _ _ _ _ _ _ _ _ _ _ _ _ _ _ _
        refine ⟨(hitn.turned T4 (by omega)).turned T3 (by omega), ?_, hm3.of_block (T3.block m hm3.lt (by omega)), T3.row (T4.row hOn (by omega)) (by omega), ?_, by have := T3.size; omega, ((lsOf md dn mc).length : Nat), ?_, ?_⟩
        · rw [hmc, lsOf_add] at t1
          exact (t1.turned T3 (by omega) (fun b h1 h2 h3 => by simp at h2; omega)).raise
        · exact ((hLs.turn.trans (Tn.mono (fun b _ h => .inr (by omega)))).trans (T4.mono (fun b _ h => .inr (by omega)))).trans (T3.mono (fun b _ h => .inr (by omega)))
        · rw [(hrow3.set 1 _ (by omega)).cell (by omega)]; rfl
        · rw [(hrow3.set 1 _ (by omega)).cell (by omega)]; rfl
      have HMC : Hid (mc = md c) := hmc
      have HM1 : Hid ((v (key c)).1 = (mc : Nat)) := hm1
      clear hmv hk hm1 hOn Ta hTx hit hpl hmc hlen2 hadd0 hdl hitn
      go_upto_region 6 with fail
      go_cut [] (fun wc => Listed w o m w.heap.size (w.heap.size + 1) (w.heap.size + 2) cnt kc v' md (sn ++ [j]) (dn ++ [c]) wn.heap.size mc wc)
      case first =>
        go_region_with (go_at_call 30; refine hadd.mono ?_; rintro e w3 ⟨p, rfl, d1, d2, HLd⟩)
        all_goals
          go_wp2_with fail
          go_meet
          case rel => exact HLd.out
      case rest =>
        obtain ⟨wx, rfl⟩ : ∃ wx : World, wx = wc := ⟨_, rfl⟩
        obtain ⟨p, e0, e1⟩ := hcut.held
        have k0 := hcut.oh.cell (j := 0) (by omega)
        simp [ohRow] at k0
        have hkx : ∀ k ∈ kc.map key, OkKey wx k := by
          intro k hk
          obtain ⟨c', hc', rfl⟩ := List.mem_map.1 hk
          exact okkey_turned (hks c' hc') hcut.turn hO hM
        have hup := run_mapPut wx.drew (hcut.map.of_block rfl) hkx (hkx _ (List.mem_map.2 ⟨c, hcm, rfl⟩)) (.agg #[.int .u8 (mc : Int), .int .i32 p])
        rw [mapPut_drew, show key c = some ⟨c, 0, none⟩ from rfl] at hup
        have HC : Hid (Listed w o m w.heap.size (w.heap.size + 1) (w.heap.size + 2) cnt kc v' md (sn ++ [j]) (dn ++ [c]) wn.heap.size mc wx) := hcut
        clear hcut hkx hadd hnx hen k7
        go_wp2_with fail
        go_region
        all_goals
          go_wp2_with fail
          go_roundw
          case rel =>
            have hmc := HMC.out
            subst hmc
            exact ⟨_, _, _, listed_put HC.out hnd hc hLs.seen hjs hLs.ndn hLs.nsn hLs.lim hLs.same HM1.out hrm (by omega) (by omega) p⟩
          case measure =>
            have hmc := HMC.out
            subst hmc
            have h1 := listed_put HC.out hnd hc hLs.seen hjs hLs.ndn hLs.nsn hLs.lim hLs.same HM1.out hrm (by omega) (by omega) p
            have h2 := h1.iter.left
            have h3 := hLs.iter.left
            have h4 : (sn ++ [j]).length ≤ kc.length := by
              have := h1.nsn.length_le_of_subset (l₂ := List.range kc.length) (fun x hx => List.mem_range.2 (h1.lim x hx))
              simpa using this
            rw [List.length_append] at h2 h4
            simp at h4 h2
            rw [h3]
            exact Nat.lt_of_le_of_lt (Nat.le_of_eq h2) (by omega)
end Go.Proofs.Ybulkcrkq
