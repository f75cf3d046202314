/- What the look over a holder set starts from. -/
import Derived.Test.YbulkcrkqGoing
import Derived.Deep.RegionHeld3
namespace Go.Proofs.Ybulkcrkq
open Go.ChangeShapes Go.WideShapes Go.ChangeAt Go.RowKit
set_option maxHeartbeats 20000000
set_option maxRecDepth 20000
set_option linter.unusedVariables false

/-- What the look over a holder set starts from. -/
structure SeqPre (w : World) (Y M : Nat → Prop) (S1 S2 S3 S4 s c0 fm : Nat) (oth : Option Nat) (m : Nat) (cnt : Nat → Int) (age : Option Addr) (kc : List Nat) (v : Option Addr → Int × Int) (md : Nat → Nat) (wdf idf : Nat → Int) (set q : Int) (older : Bool) : Prop where
  c1 : w.cell? ⟨S1, 0, none⟩ = some (.pointer (some ⟨s, 0, none⟩))
  c2 : w.cell? ⟨S2, 0, none⟩ = some (.bool older)
  c3 : w.cell? ⟨S3, 0, none⟩ = some (.int .u64 q)
  c4 : w.cell? ⟨S4, 0, none⟩ = some (.int .u8 set)
  hset : HSet w s (key c0) fm oth m cnt age (kc.map key) v
  core : ∀ c, c ∈ c0 :: kc → w.cell? ⟨c, 35, none⟩ = some (.int .u32 (wdf c)) ∧ w.cell? ⟨c, 37, none⟩ = some (.int .u64 (idf c))
  ids : ∀ c, 1 ≤ idf c ∧ idf c ≤ 100
  fst : md c0 = fm
  mds : ∀ c, c ∈ kc → (v (key c)).1 = (md c : Nat)
  mdr : ∀ c, c ∈ c0 :: kc → 1 ≤ md c ∧ md c ≤ 5
  nd : (c0 :: kc).Nodup
  len : kc.length ≤ 400
  setr : 0 ≤ set ∧ set ≤ 255
  qr : 0 ≤ q ∧ q ≤ 100
  ageok : AgeOk w Y M [S1, S2, S3, S4] c0 kc md wdf idf age
  yold : ∀ b, Y b → b < w.heap.size
  mold : ∀ b, M b → b < w.heap.size
  ySs : ∀ b, b ∈ [S1, S2, S3, S4] → ¬ Y b
  ys : ¬ Y s
  yc : ∀ c, c ∈ c0 :: kc → ¬ Y c
  yo : ∀ o, oth = some o → ¬ Y o ∧ ¬ Y m ∧ ¬ M o ∧ ¬ M m ∧ ∀ b, b ∈ [S1, S2, S3, S4] → b ≠ o ∧ b ≠ m

theorem AgeOk.turned {w w' : World} {Y M : Nat → Prop} {X : List Nat} {c0 : Nat} {kc : List Nat} {md : Nat → Nat} {wdf idf : Nat → Int} {age : Option Addr} (h : AgeOk w Y M X c0 kc md wdf idf age) (hT : Turned w w' Y) : AgeOk w' Y M X c0 kc md wdf idf age := by
  rcases h with h | ⟨L, dn, e, h1, h2, h3, h4, h5, h6, h7⟩
  · exact .inl h
  · exact .inr ⟨L, dn, e, h1, h2, h3.turned hT (fun _ _ h => h) h4, h4, h5, h6, h7⟩

theorem SeqPre.turned {w w' : World} {Y M : Nat → Prop} {S1 S2 S3 S4 s c0 fm : Nat} {oth : Option Nat} {m : Nat} {cnt : Nat → Int} {age : Option Addr} {kc : List Nat} {v : Option Addr → Int × Int} {md : Nat → Nat} {wdf idf : Nat → Int} {set q : Int} {older : Bool}
    (h : SeqPre w Y M S1 S2 S3 S4 s c0 fm oth m cnt age kc v md wdf idf set q older) (hT : Turned w w' Y) : SeqPre w' Y M S1 S2 S3 S4 s c0 fm oth m cnt age kc v md wdf idf set q older :=
  { h with
    c1 := hT.cell h.c1 (h.ySs S1 (by simp))
    c2 := hT.cell h.c2 (h.ySs S2 (by simp))
    c3 := hT.cell h.c3 (h.ySs S3 (by simp))
    c4 := hT.cell h.c4 (h.ySs S4 (by simp))
    hset := hset_turned h.hset hT h.ys h.yc (fun o ho => ⟨(h.yo o ho).1, (h.yo o ho).2.1⟩)
    core := fun c hc => ⟨hT.cell (h.core c hc).1 (h.yc c hc), hT.cell (h.core c hc).2 (h.yc c hc)⟩
    ageok := h.ageok.turned hT
    yold := fun b hb => Nat.lt_of_lt_of_le (h.yold b hb) hT.size
    mold := fun b hb => Nat.lt_of_lt_of_le (h.mold b hb) hT.size }

theorem Turned.drewN {a w : World} {T : Nat → Prop} (h : Turned a w T) (n : Nat) : Turned a (w.drewN n) T := ⟨h.os, h.tape, h.output, h.size, h.block⟩

end Go.Proofs.Ybulkcrkq
