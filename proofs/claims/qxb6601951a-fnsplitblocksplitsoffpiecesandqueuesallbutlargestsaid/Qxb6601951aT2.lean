import Derived.Test.Qxb6601951aT1
namespace Go.Proofs.Qxb6601951a
open Go.RowKit

def IsBool (e : Ending) : Prop := ∃ b, e = .returned (.bool b)

set_option maxHeartbeats 4000000 in
theorem bytes_any (a0 a2 a3 a4 a6 : Option Addr) (n0 n2 n3 n4 n6 c0 c2 c3 c4 c6 : Nat) (x y : Int) (w : World) :
    Calls Try.prog 13 #[.slice a0 n0 c0, .int .i64 x, .slice a2 n2 c2, .slice a3 n3 c3, .slice a4 n4 c4, .int .i64 y, .slice a6 n6 c6] w fun e w' => IsBool e ∧ w' = w := by
  go_enter Try.func13, Try.ntmps13
  go_wp2
  all_goals (go_ret; exact ⟨⟨_, rfl⟩, rfl⟩)
end Go.Proofs.Qxb6601951a
