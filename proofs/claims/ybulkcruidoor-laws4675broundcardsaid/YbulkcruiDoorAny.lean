/- LawS4675BRound at every input. -/
import Derived.Test.YbulkcruiDoorLaw
namespace Go.Proofs.YbulkcruiDoor
open Go.ChangeShapes Go.WideShapes Go.ChangeAt Go.RowKit
set_option maxHeartbeats 1000000
set_option maxRecDepth 30000
set_option linter.unusedVariables false

theorem law_any (Ff Sf Rf Af : Nat → Int) (fa : Option Addr) (fl fcp : Nat) (sa : Option Addr) (sl scp : Nat) (q r : Int) (ra : Option Addr) (rl rcp : Nat) (af at_ : Int) (aa : Option Addr) (al acp : Nat) (ok : Bool) (w : World)
    (hfl : fl ≤ 9223372036854775807) (hsl : sl ≤ 9223372036854775807) (hrl : rl ≤ 9223372036854775807) (hal : al ≤ 9223372036854775807) (hq : 0 ≤ q ∧ q ≤ 255)
    (hF : Shows .i64 Ff fa fl w) (hS : Shows .i64 Sf sa sl w) (hR : Shows .i64 Rf ra rl w) (hA : Shows .u8 Af aa al w) (hAf : ∀ j, 0 ≤ Af j ∧ Af j ≤ 255)
    (htab : Lib.TabBelow Ybad.prog w.heap.size w tabName .u64 Lib.pow10Tab) :
    Calls Ybad.prog 3 #[.slice fa fl fcp, .slice sa sl scp, .int .u8 q, .int .i64 r, .slice ra rl rcp, .int .i64 af, .int .i64 at_, .slice aa al acp, .bool ok] w fun e w' => e = .returned (.bool true) ∧ Below w.heap.size w w' := by
  by_cases h1 : fl ≤ 1024
  · by_cases h2 : sl ≤ 1024
    · by_cases h3 : rl ≤ 1024
      · by_cases h4 : al ≤ 1024
        · exact law_in Ff Sf Rf Af fa fl fcp sa sl scp q r ra rl rcp af at_ aa al acp ok w h1 h2 h3 h4 hq hF hS hR hA hAf htab
        · clear htab hF hS hR hA
          go_enter Ybad.func3, Ybad.ntmps3
          go_wp2_with fail
          go_ret
          exact ⟨rfl, Below.refl _ _⟩
      · clear htab hF hS hR hA
        go_enter Ybad.func3, Ybad.ntmps3
        go_wp2_with fail
        go_ret
        exact ⟨rfl, Below.refl _ _⟩
    · clear htab hF hS hR hA
      go_enter Ybad.func3, Ybad.ntmps3
      go_wp2_with fail
      go_ret
      exact ⟨rfl, Below.refl _ _⟩
  · clear htab hF hS hR hA
    go_enter Ybad.func3, Ybad.ntmps3
    go_wp2_with fail
    go_ret
    exact ⟨rfl, Below.refl _ _⟩
end Go.Proofs.YbulkcruiDoor
