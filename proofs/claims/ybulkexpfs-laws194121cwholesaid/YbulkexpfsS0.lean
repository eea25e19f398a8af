/- The small callees of the sort over this program: cmp.isNaN, cmp.Less at float64; bits.Len64, bits.Len; xorshift.Next, nextPowerOfTwo. -/
import Derived.Test.YbulkexpfsProg
import Derived.Test.YbulkexpfsFl
import Derived.Sort.Walk7a
import Derived.Laws.Cover2
namespace Go.Proofs.Ybulkexpfs
open Go.RowKit Go.Sort

theorem run_store_float {P : Program} (w : World) (a : Addr) (m : Mode) (k : FloatKind) (n : Nat) : (store a (.float k n) m).run P w = stored P w a (.float k n) m := run_store P w a _ m rfl

abbrev encF : Nat → Value := fun b => Value.float .f64 b

set_option maxHeartbeats 1000000 in
theorem cmp_isNaN (x : Nat) (w : World) : Calls Yba.prog 30 #[.float .f64 x] w fun e w' => e = .returned (.bool (fnan x)) ∧ w' = w := by
  go_enter Yba.func30, Yba.ntmps30
  go_wp2
  go_ret
  exact ⟨rfl, rfl⟩

set_option maxHeartbeats 1000000 in
/-- cmp.Less[float64]: IT RETURNS 'ltF x y'; the world is as it was. -/
theorem cmp_Less (x y : Nat) (w : World) : Calls Yba.prog 20 #[.float .f64 x, .float .f64 y] w fun e w' => e = .returned (.bool (ltF x y)) ∧ w' = w := by
  cases hx : fnan x
  all_goals cases hy : fnan y
  all_goals
    have H : Hid (ltF x y = ((fnan x && !fnan y) || flt x y)) := rfl
    go_enter Yba.func20, Yba.ntmps20
    go_wp2_with (go_at_call 30; refine (cmp_isNaN _ _).mono ?_; rintro e w' ⟨rfl, rfl⟩)
    go_ret
    refine ⟨?_, rfl⟩
    rw [H.out, hx, hy]
    rfl

end Go.Proofs.Ybulkexpfs
