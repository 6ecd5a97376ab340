import Derived.Test.Qxb6602401aDoorW9
import Derived.Test.Qxb6602401aDoorPl5
namespace Go.Proofs.Qxb6602401aDoor
open Go.RowKit

/-- k is where the white space from i on ends -/
def SkTo (l : List UInt8) (n i k : Nat) : Prop := i ≤ k ∧ k ≤ n ∧ (∀ j, i ≤ j → j < k → isSp (l.getD j 0) = true) ∧ (k = n ∨ isSp (l.getD k 0) = false)

set_option maxHeartbeats 1000000 in
set_option maxRecDepth 100000 in
theorem skip30 (ao : Option Addr) (n cap : Nat) (l : List UInt8) (i k : Nat) (w : World) (hrow : BRow w ao n l) (hn : n ≤ 1048576) (hk : SkTo l n i k) :
    Calls Tryd.prog 30 #[.slice ao n cap, .int .i64 i] w fun e w' => e = .returned (.int .i64 k) ∧ w' = w := by
  have HRW : Hid (BRow w ao n l) := hrow
  obtain ⟨k1, k2, k3, k4⟩ := hk
  have HS : Hid (∀ j, i ≤ j → j < k → isSp (l.getD j 0) = true) := k3
  have HE : Hid (k = n ∨ isSp (l.getD k 0) = false) := k4
  clear hrow k3 k4
  go_enter Tryd.func30, Tryd.ntmps30
  go_wp2_with fail
  go_loop [1] (fun v1 => ∃ j : Nat, i ≤ j ∧ j ≤ k ∧ v1 = .int .i64 j) (fun v1 => k - (intOf v1).toNat)
  case atStart => exact ⟨i, Nat.le_refl _, k1, rfl⟩
  case round =>
    obtain ⟨j, hj1, hj2, rfl⟩ := hrel
    by_cases hlt : j < n
    · obtain ⟨b, off, hao, hcell⟩ := BRow.at HRW.out j hlt
      subst hao
      by_cases hjk : j < k
      · have hsp := HS.out j hj1 hjk
        obtain ⟨c, hc⟩ : ∃ c, c = l.getD j 0 := ⟨_, rfl⟩
        rw [← hc] at hcell hsp
        unfold bc at hcell
        clear hc
        go_wp2_with fail
        refine (space28 c w).mono ?_
        rintro en w1 ⟨rfl, rfl⟩
        rw [hsp]
        go_wp2
        go_round
        case rel => exact ⟨j + 1, by omega, hjk, by go_num⟩
        case measure => simp [intOf]; omega
      · obtain rfl : j = k := by omega
        have hsp : isSp (l.getD j 0) = false := by
          rcases HE.out with h | h
          · omega
          · exact h
        obtain ⟨c, hc⟩ : ∃ c, c = l.getD j 0 := ⟨_, rfl⟩
        rw [← hc] at hcell hsp
        unfold bc at hcell
        clear hc
        go_wp2_with fail
        refine (space28 c w).mono ?_
        rintro en w1 ⟨rfl, rfl⟩
        rw [hsp]
        go_wp2
        go_ret
        exact ⟨rfl, rfl⟩
    · obtain rfl : j = n := by omega
      obtain rfl : k = j := by omega
      go_wp2
      go_ret
      exact ⟨rfl, rfl⟩

set_option maxRecDepth 100000 in
theorem next26_end (ao : Option Addr) (n cap : Nat) (l : List UInt8) (i : Nat) (w : World) (hrow : BRow w ao n l) (hn : n ≤ 1048576) (hk : SkTo l n i n) :
    Calls Tryd.prog 26 #[.slice ao n cap, .int .i64 i] w fun e w' => e = .returned (.int .i64 n) ∧ w' = w := by
  have HK : Hid (Calls Tryd.prog 30 #[.slice ao n cap, .int .i64 i] w fun e w' => e = .returned (.int .i64 n) ∧ w' = w) := skip30 ao n cap l i n w hrow hn hk
  clear hrow hk
  go_enter Tryd.func26, Tryd.ntmps26
  go_wp2_with fail
  refine Calls.mono HK.out ?_
  rintro en w1 ⟨rfl, rfl⟩
  go_wp2
  go_ret
  exact ⟨rfl, rfl⟩

set_option maxRecDepth 100000 in
theorem next26_comma (ao : Option Addr) (n cap : Nat) (l : List UInt8) (i k1 k2 : Nat) (w : World) (hrow : BRow w ao n l) (hn : n ≤ 1048576) (h1 : SkTo l n i k1) (hk1 : k1 < n) (h44 : l.getD k1 0 = 44) (h2 : SkTo l n (k1 + 1) k2) :
    Calls Tryd.prog 26 #[.slice ao n cap, .int .i64 i] w fun e w' => e = .returned (.int .i64 k2) ∧ w' = w := by
  have HK : Hid (Calls Tryd.prog 30 #[.slice ao n cap, .int .i64 i] w fun e w' => e = .returned (.int .i64 k1) ∧ w' = w) := skip30 ao n cap l i k1 w hrow hn h1
  have HK2 : Hid (Calls Tryd.prog 30 #[.slice ao n cap, .int .i64 ((k1 : Int) + 1)] w fun e w' => e = .returned (.int .i64 k2) ∧ w' = w) := skip30 ao n cap l (k1 + 1) k2 w hrow hn h2
  obtain ⟨b, off, hao, hcell⟩ := BRow.at hrow k1 hk1
  subst hao
  rw [h44] at hcell
  unfold bc at hcell
  have hkB : ((k1 : Int) == (n : Int)) = false := beq_eq_false_iff_ne.2 (by omega)
  clear hrow h1 h2 h44
  go_enter Tryd.func26, Tryd.ntmps26
  go_wp2_with fail
  refine Calls.mono HK.out ?_
  rintro en w1 ⟨rfl, rfl⟩
  go_wp2_with fail
  refine Calls.mono HK2.out ?_
  rintro en w1 ⟨rfl, rfl⟩
  go_wp2
  go_ret
  exact ⟨rfl, rfl⟩

set_option maxRecDepth 100000 in
theorem zznext20 (v : Value) (i : Int) (z : Int) (w : World) (ao : Option Addr) (n cap : Nat) (hv : v = .slice ao n cap) (h : Calls Tryd.prog 26 #[.slice ao n cap, .int .i64 i] w fun e w' => e = .returned (.int .i64 z) ∧ w' = w) :
    Calls Tryd.prog 20 #[v, .int .i64 i] w fun e w' => e = .returned (.int .i64 z) ∧ w' = w := by
  subst hv
  have HK : Hid (Calls Tryd.prog 26 #[.slice ao n cap, .int .i64 i] w fun e w' => e = .returned (.int .i64 z) ∧ w' = w) := h
  clear h
  go_enter Tryd.func20, Tryd.ntmps20
  go_wp2_with fail
  refine Calls.mono HK.out ?_
  rintro en w1 ⟨rfl, rfl⟩
  go_wp2
  go_ret
  exact ⟨rfl, rfl⟩
end Go.Proofs.Qxb6602401aDoor
