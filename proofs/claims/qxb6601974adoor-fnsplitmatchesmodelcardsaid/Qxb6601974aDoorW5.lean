import Derived.Test.Qxb6601974aDoorW4
import Derived.Lib.RuneCountTail
import Derived.Lib.DecodeN
namespace Go.Proofs.Qxb6601974aDoor
open Go.RowKit

set_option maxHeartbeats 1000000 in
set_option maxRecDepth 100000 in
theorem index25 (b off n cap : Nat) (f : Nat → Bool) (w : World) (hn : n ≤ 1048576) (hc : ∀ i, i < n → w.cell? ⟨b, off + i, none⟩ = some (.bool (f i))) :
    Calls Tryd.prog 25 #[.slice (some ⟨b, off, none⟩) n cap, .bool true] w fun e w' => ∃ z : Int, e = .returned (.int .i64 z) ∧ decide (0 ≤ z) = (List.range n).any f ∧ w' = w := by
  have HC : Hid _ := hc
  clear hc
  go_enter Tryd.func25, Tryd.ntmps25
  go_wp2_with fail
  go_loop [8] (fun i => ∃ (k : Nat), k ≤ n ∧ i = .int .i64 k ∧ Hid (∀ j, j < k → f j = false)) (fun i => n - (intOf i).toNat)
  case atStart => exact ⟨0, Nat.zero_le _, rfl, fun j h => absurd h (Nat.not_lt_zero _)⟩
  case round =>
    obtain ⟨k, hk, rfl, HS⟩ := hrel
    by_cases hlt : k < n
    · have hcell := HC.out k hlt
      obtain ⟨x, Hx⟩ : ∃ x, Hid (x = f k) := ⟨_, rfl⟩
      rw [← Hx.out] at hcell
      cases x
      · have HS2 : Hid (∀ j, j < k + 1 → f j = false) := by
          intro j h
          by_cases e : j = k
          · subst e; exact Hx.out.symm
          · exact HS.out j (by omega)
        go_wp2
        go_round
        case rel => exact ⟨k + 1, by omega, by go_num, HS2⟩
        case measure => simp [intOf]; omega
      · have HA : Hid (decide (0 ≤ (k : Int)) = (List.range n).any f) := by
          show _ = _
          rw [decide_eq_true (by omega : 0 ≤ (k : Int)), eq_comm, List.any_eq_true]
          exact ⟨k, List.mem_range.2 hlt, Hx.out.symm⟩
        go_wp2
        go_ret
        exact ⟨_, rfl, HA.out, rfl⟩
    · have HA : Hid (decide (0 ≤ (-1 : Int)) = (List.range n).any f) := by
        show _ = _
        rw [eq_comm, decide_eq_false (by decide), List.any_eq_false]
        intro j hj
        rw [HS.out j (by have := List.mem_range.1 hj; omega)]
        simp
      obtain rfl : k = n := by omega
      go_wp2
      go_ret
      exact ⟨_, rfl, HA.out, rfl⟩

set_option maxRecDepth 100000 in
theorem contains21 (b off n cap : Nat) (f : Nat → Bool) (w : World) (hn : n ≤ 1048576) (hc : ∀ i, i < n → w.cell? ⟨b, off + i, none⟩ = some (.bool (f i))) :
    Calls Tryd.prog 21 #[.slice (some ⟨b, off, none⟩) n cap, .bool true] w fun e w' => e = .returned (.bool ((List.range n).any f)) ∧ w' = w := by
  have HC : Hid _ := hc
  clear hc
  go_enter Tryd.func21, Tryd.ntmps21
  go_wp2_with fail
  refine (index25 b off n cap f w hn HC.out).mono ?_
  rintro en w3 ⟨z, rfl, hz, rfl⟩
  have HZ : Hid _ := hz
  clear hz
  go_wp2
  go_ret
  exact ⟨ret_bool HZ.out, rfl⟩
end Go.Proofs.Qxb6601974aDoor
