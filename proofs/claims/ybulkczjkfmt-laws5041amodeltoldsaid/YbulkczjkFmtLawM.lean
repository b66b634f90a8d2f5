/-
  LawS5041AModel: walked, whatever comes in.
-/
import Derived.Test.YbulkczjkFmtLawP
import Derived.Test.YbulkczjkFmtLawI
import Derived.Test.YbulkczjkFmtLawO
namespace Go.Proofs.YbulkczjkFmt
open Go.RowKit Go.Maps

set_option maxRecDepth 100000 in
set_option maxHeartbeats 1600000 in
theorem model_big (x mm cm tg : Nat) (sa : Option Addr) (L sc : Nat) (w : World) (hL : 300 < L) :
    Calls Ybaf.prog 3 #[.int .u8 x, .int .u8 mm, .int .u8 cm, .int .u8 tg, .slice sa L sc] w fun e w' => e = .returned (.bool true) ∧ Below w.heap.size w w' := by
  go_enter Ybaf.func3, Ybaf.ntmps3
  go_wp2_with fail
  go_ret
  exact ⟨rfl, Below.refl _ _⟩

theorem model_any (x mm cm tg : Nat) (sa : Option Addr) (L sc : Nat) (ms : Nat → Msg) (hx : x < 256) (hmm : mm < 256) (hcm : cm < 256) (htg : tg < 256) (w : World) (hin : MsgsIn w sa L ms) :
    Calls Ybaf.prog 3 #[.int .u8 x, .int .u8 mm, .int .u8 cm, .int .u8 tg, .slice sa L sc] w fun e w' => e = .returned (.bool true) ∧ Below w.heap.size w w' := by
  by_cases hL : 300 < L
  · exact model_big x mm cm tg sa L sc w hL
  · have hL' : L ≤ 300 := by omega
    cases hpre : bitN cm (tg % (x % 4 + 1)) with
    | true => exact model_pre x mm cm tg _ _ _ sa L sc ms hx hmm hcm htg rfl rfl rfl hL' hpre w hin
    | false =>
      cases hmem : bitN mm (tg % (x % 4 + 1)) with
      | true => exact model_mem x mm cm tg _ _ _ sa L sc ms hx hmm hcm htg rfl rfl rfl hL' hpre hmem w hin
      | false => exact model_out x mm cm tg _ _ _ sa L sc ms hx hmm hcm htg rfl rfl rfl hL' hpre hmem w hin

end Go.Proofs.YbulkczjkFmt
