import Derived.Test.Qxb6618604aRowAt
namespace Go.Proofs.Qxb6618604a
open Go.RowKit Go.Shelf

def SomeBool (w : World) (e : Ending) (w' : World) : Prop := ∃ bb : Bool, e = .returned (.bool bb) ∧ w = w'

set_option maxRecDepth 100000 in
set_option maxHeartbeats 2000000 in
theorem bytes11 (a0 a1 a2 : Option Addr) (n0 n1 n2 c0 c1 c2 : Nat) (k : Int) (w : World) :
    Calls Try.prog 11 #[.slice a0 n0 c0, .slice a1 n1 c1, .slice a2 n2 c2, .int .i64 k] w fun e w' => SomeBool w e w' := by
  go_enter Try.func11, Try.ntmps11
  go_wp2
  all_goals go_ret
  all_goals exact ⟨_, rfl, rfl⟩

set_option maxRecDepth 100000 in
set_option maxHeartbeats 2000000 in
theorem bytes14 (a0 a1 a2 : Option Addr) (n0 n1 n2 c0 c1 c2 : Nat) (k : Int) (w : World) :
    Calls Try.prog 14 #[.slice a0 n0 c0, .slice a1 n1 c1, .slice a2 n2 c2, .int .i64 k] w fun e w' => SomeBool w e w' := by
  go_enter Try.func14, Try.ntmps14
  go_wp2
  all_goals go_ret
  all_goals exact ⟨_, rfl, rfl⟩

end Go.Proofs.Qxb6618604a
