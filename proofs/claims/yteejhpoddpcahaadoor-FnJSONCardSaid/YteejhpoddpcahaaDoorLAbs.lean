/- FnAbsolute, walked: at every code and amount the law returns true and leaves what was there. -/
import Derived.Test.YteejhpoddpcahaaDoorAlive
namespace Go.Proofs.YteejhpoddpcahaaDoor
open Go.RowKit

def absoluteI (a : Int) : Int := if a < 0 then -a else a
set_option maxHeartbeats 400000 in
theorem absolute_calc (p : Option Addr) (a : Int) (w : World) (h0 : -9223372036854775807 ≤ a) (h1 : a ≤ 9223372036854775807) :
    Calls Tryd.prog 60 #[.pointer p, .int .i64 a] w fun e w' => e = .returned (.int .i64 (absoluteI a)) ∧ w = w' := by
  by_cases h : a < 0
  · have HR := Lib.hid (show absoluteI a = -a from if_pos h)
    go_enter Tryd.func60, Tryd.ntmps60
    go_wp2
    go_ret
    exact ⟨ret_int HR.out.symm, rfl⟩
  · have HR := Lib.hid (show absoluteI a = a from if_neg h)
    go_enter Tryd.func60, Tryd.ntmps60
    go_wp2
    go_ret
    exact ⟨ret_int HR.out.symm, rfl⟩

end Go.Proofs.YteejhpoddpcahaaDoor
