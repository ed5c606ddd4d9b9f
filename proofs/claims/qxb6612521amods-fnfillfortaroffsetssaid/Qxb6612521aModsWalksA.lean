import Derived.Test.Qxb6612521aModsChecked
import Derived.Test.Qxb6612521aModsPlain
import Derived.WalkKit
import Derived.Below
namespace Go.Proofs.Qxb6612521aMods.Fill
open Go.RowKit
set_option linter.unusedVariables false

theorem ret_int {k : IntKind} {a b : Int} (h : a = b) : Ending.returned (.int k a) = .returned (.int k b) := by rw [h]

theorem fill19 (a : Int) (w : World) :
    Calls Trym.prog 19 #[.int .i64 a] w fun e w' => e = .returned (.int .i64 ((-a) % 512)) ∧ w = w' := by
  go_enter Trym.func19, Trym.ntmps19
  go_wp2
  go_ret
  exact ⟨ret_int (fill_eq a), rfl⟩

theorem fill7 (a : Int) (w : World) :
    Calls Trym.prog 7 #[.int .i64 a] w fun e w' => e = .returned (.int .i64 ((-a) % 512)) ∧ w = w' := by
  go_enter Trym.func7, Trym.ntmps7
  go_wp2_with (go_at_call 19; refine (fill19 a _).mono ?_; rintro e w' ⟨rfl, rfl⟩)
  go_ret
  exact ⟨rfl, rfl⟩

theorem ret_true {b : Bool} (h : b = true) : Ending.returned (.bool b) = .returned (.bool true) := by rw [h]

theorem law3 (a : Int) (w : World) :
    Calls Trym.prog 3 #[.int .i64 a] w fun e w' => e = .returned (.bool true) ∧ w = w' := by
  rcases tmod_ways a with ⟨h1, h2, hr⟩ | ⟨h1, hr⟩ | ⟨h1, h2, hr⟩
  · go_enter Trym.func3, Trym.ntmps3
    go_wp2_with fail
    refine (fill7 a _).mono ?_
    rintro e w' ⟨rfl, rfl⟩
    have HR : Hid (-a % 512 = -(a.tmod 512)) := hr
    clear hr
    generalize -a % 512 = r at *
    have hn : (a.tmod 512 + 512 != 0) = true := by simp; omega
    go_wp2
    go_ret
    exact ⟨ret_true (by have := HR.out; simp; omega), rfl⟩
  · go_enter Trym.func3, Trym.ntmps3
    go_wp2_with fail
    refine (fill7 a _).mono ?_
    rintro e w' ⟨rfl, rfl⟩
    have HR : Hid (-a % 512 = 0) := hr
    clear hr
    generalize -a % 512 = r at *
    go_wp2
    go_ret
    exact ⟨ret_true (by have := HR.out; simp; omega), rfl⟩
  · go_enter Trym.func3, Trym.ntmps3
    go_wp2_with fail
    refine (fill7 a _).mono ?_
    rintro e w' ⟨rfl, rfl⟩
    have HR : Hid (-a % 512 = 512 - a.tmod 512) := hr
    clear hr
    generalize -a % 512 = r at *
    have hn : (a.tmod 512 != 0) = true := by simp; omega
    go_wp2
    go_ret
    exact ⟨ret_true (by have := HR.out; simp; omega), rfl⟩
end Go.Proofs.Qxb6612521aMods.Fill
