import Derived.Test.Qxb6601590aDoorRows
import Derived.WalkKit
import Derived.WalkSpells
import Derived.WalkLawsBesides
namespace Go.Proofs.Qxb6601590aDoor
open Go.RowKit

def isDig (c : UInt8) : Bool := decide (48 ≤ (c.toNat : Int)) && decide ((c.toNat : Int) ≤ 57)

theorem ret_bool {a b : Bool} (h : a = b) : Ending.returned (.bool a) = .returned (.bool b) := by rw [h]

set_option maxHeartbeats 400000 in
theorem zzDigit_any (c : UInt8) (w : World) :
    Calls Tryd.prog 17 #[.int .u8 c.toNat] w fun e w' => e = .returned (.bool (isDig c)) ∧ w' = w := by
  by_cases h1 : 48 ≤ (c.toNat : Int)
  · by_cases h2 : (c.toNat : Int) ≤ 57
    · go_enter Tryd.func17, Tryd.ntmps17
      go_wp2
      go_ret
      exact ⟨ret_bool (by simp [isDig, h1, h2]), rfl⟩
    · go_enter Tryd.func17, Tryd.ntmps17
      go_wp2
      go_ret
      exact ⟨ret_bool (by simp [isDig]; omega), rfl⟩
  · go_enter Tryd.func17, Tryd.ntmps17
    go_wp2
    go_ret
    exact ⟨ret_bool (by simp [isDig]; omega), rfl⟩

set_option maxHeartbeats 400000 in
theorem zzBytes_any (s : ByteArray) (e : Int) (w : World) (hs : s.size ≤ 9223372036854775807) :
    Calls Tryd.prog 6 #[.string s, .int .i64 e] w fun e w' => e = .returned (.bool (decide ((s.size : Int) ≤ 1048576))) ∧ w' = w := by
  by_cases h1 : (s.size : Int) ≤ 1048576
  · go_enter Tryd.func6, Tryd.ntmps6
    go_wp2
    go_ret
    exact ⟨ret_bool (by simp; omega), rfl⟩
  · go_enter Tryd.func6, Tryd.ntmps6
    go_wp2
    go_ret
    exact ⟨ret_bool (by simp; omega), rfl⟩
end Go.Proofs.Qxb6601590aDoor
