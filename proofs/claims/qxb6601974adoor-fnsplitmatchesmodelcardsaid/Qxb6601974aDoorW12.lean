import Derived.Test.Qxb6601974aDoorW10
import Derived.Test.Qxb6601974aDoorW11
namespace Go.Proofs.Qxb6601974aDoor
open Go.RowKit

theorem hid_true (Sp : List (Nat × Nat)) (p l k : Nat) (hk : k < l) (h : inSp Sp (p + k) = true) : hidB Sp p l = true := by
  unfold hidB
  rw [List.any_eq_true]
  exact ⟨k, List.mem_range.2 hk, h⟩
theorem hid_false (Sp : List (Nat × Nat)) (p l : Nat) (h : ∀ k, k < l → inSp Sp (p + k) = false) : hidB Sp p l = false := by
  unfold hidB
  rw [List.any_eq_false]
  intro k hk
  rw [h k (List.mem_range.1 hk)]
  simp

set_option maxHeartbeats 1000000 in
set_option maxRecDepth 100000 in
theorem any14 (base : Nat) (v : Value) (N lo l : Nat) (Sp : List (Nat × Nat)) (w : World) (hc : Cov base w v N Sp) (hN : N ≤ 1048576) (hl : lo + l ≤ N) :
    Calls Tryd.prog 14 #[v, .int .i64 lo, .int .i64 ((lo + l : Nat) : Int)] w fun e w' => e = .returned (.bool (hidB Sp lo l)) ∧ w' = w := by
  obtain ⟨r, HR⟩ : ∃ r, Hid (r = hidB Sp lo l) := ⟨_, rfl⟩
  rw [← HR.out]
  have heq := fun (w : World) (a : Option Addr) (n c : Nat) => Lib.run_eql_slice_nil (P := Tryd.prog) w 35 4 a n c 0 0 Tryd.underlying35
  obtain ⟨ao, l1, c1, rfl, hform⟩ := Cov.form hc
  have HF : Hid _ := hform
  clear hc hform
  rcases HF.out with ⟨rfl, hS⟩ | ⟨b, rfl, rfl, rfl, _, hvb⟩
  · have hr : r = false := by rw [HR.out, hS]; exact hid_none _ _
    subst hr
    clear HF
    go_enter Tryd.func14, Tryd.ntmps14
    go_wp2
    go_ret
    exact ⟨rfl, rfl⟩
  · have HB : Hid _ := hvb
    clear hvb HF
    go_enter Tryd.func14, Tryd.ntmps14
    go_wp2_with fail
    go_loop [7] (fun i => ∃ (k : Nat), k ≤ l ∧ i = .int .i64 ((lo + k : Nat) : Int) ∧ Hid (∀ j, j < k → inSp Sp (lo + j) = false)) (fun i => lo + l - (intOf i).toNat)
    case atStart => exact ⟨0, Nat.zero_le _, rfl, fun j h => absurd h (Nat.not_lt_zero _)⟩
    case round =>
      obtain ⟨k, hk, rfl, HS⟩ := hrel
      by_cases hlt : k < l
      · have hcell := (HB.out.2 (lo + k) (by rw [Fl_len]; omega)).1
        rw [Fl_get _ _ _ (by omega)] at hcell
        obtain ⟨x, Hx⟩ : ∃ x, Hid (x = inSp Sp (lo + k)) := ⟨_, rfl⟩
        rw [← Hx.out] at hcell
        cases x
        · have HS2 : Hid (∀ j, j < k + 1 → inSp Sp (lo + j) = false) := by
            intro j h
            by_cases e : j = k
            · subst e; exact Hx.out.symm
            · exact HS.out j (by omega)
          go_wp2
          go_round
          case rel => exact ⟨k + 1, by omega, by go_num, HS2⟩
          case measure => simp [intOf]; omega
        · have hr : r = true := by rw [HR.out]; exact hid_true Sp lo l k hlt Hx.out.symm
          subst hr
          go_wp2
          go_ret
          exact ⟨rfl, rfl⟩
      · obtain rfl : k = l := by omega
        have hr : r = false := by rw [HR.out]; exact hid_false Sp lo k HS.out
        subst hr
        go_wp2
        go_ret
        exact ⟨rfl, rfl⟩
end Go.Proofs.Qxb6601974aDoor
