import Derived.Test.Qxb6619252aRows
import Derived.Sort.Statements
import Derived.Sort.Row
import Derived.WalkKit
import Derived.WalkLawsBesides
namespace Go.Proofs.Qxb6619252a
open Go.RowKit Go.Sort

/-- How a figure lies in a cell. -/
abbrev encF : Nat → Value := fun b => Value.float .f64 b

/-- A figure stored into a cell: the law that the walk's set lacks. -/
theorem run_store_float (P : Program) (w : World) (a : Addr) (m : Mode) (k : FloatKind) (b : Nat) : (store a (.float k b) m).run P w = stored P w a (.float k b) m := run_store P w a _ m rfl

/-- How two figures stand to each other. -/
def ord (x y : Nat) : Option Ordering := Ieee.double.order x y
/-- Is it no number? -/
def nanF (x : Nat) : Bool := ord x x != some .eq
/-- Go's '<' on figures. -/
def lssF (x y : Nat) : Bool := ord x y == some .lt
/-- The order in which the library sorts figures: NaN first. -/
def ltF (x y : Nat) : Bool := (nanF x && !nanF y) || lssF x y

theorem cmp_isNaN_float (x : Nat) (w : World) : Calls Try.prog 38 #[.float .f64 x] w fun e w' => e = .returned (.bool (nanF x)) ∧ w' = w := by
  go_enter Try.func38, Try.ntmps38
  go_wp2
  go_ret
  exact ⟨rfl, rfl⟩

set_option maxHeartbeats 400000 in
theorem cmp_Less_float (x y : Nat) (w : World) : Calls Try.prog 28 #[.float .f64 x, .float .f64 y] w fun e w' => e = .returned (.bool (ltF x y)) ∧ w' = w := by
  have hlt : ltF x y = ((nanF x && !nanF y) || Ieee.double.order x y == some .lt) := rfl
  rw [hlt]
  clear hlt
  cases hx : nanF x <;> cases hy : nanF y
  all_goals
    go_enter Try.func28, Try.ntmps28
    go_wp2_with (go_at_call 38; refine (cmp_isNaN_float _ _).mono ?_; rintro e w' ⟨rfl, rfl⟩)
    go_ret
    exact ⟨rfl, rfl⟩
end Go.Proofs.Qxb6619252a
