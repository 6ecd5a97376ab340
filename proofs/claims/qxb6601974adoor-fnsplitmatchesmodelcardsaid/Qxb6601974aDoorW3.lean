import Derived.Test.Qxb6601974aDoorW2
namespace Go.Proofs.Qxb6601974aDoor
open Go.RowKit

theorem occ_long (s v : ByteArray) (p : Nat) (h : s.size - p < v.size) : Lib.occAt s.data.toList v.data.toList p = false := by
  cases e : Lib.occAt s.data.toList v.data.toList p with
  | false => rfl
  | true =>
    unfold Lib.occAt at e
    have hp := (List.isPrefixOf_iff_prefix.1 e).length_le
    rw [List.length_drop, show v.data.toList.length = v.size from rfl, show s.data.toList.length = s.size from rfl] at hp
    omega

theorem ba_get (s : ByteArray) (i : Nat) (h : i < s.size) : s.data.toList[i]? = some s[i] := by
  rw [List.getElem?_eq_getElem (by exact h)]; rfl

theorem occ_all (s v : ByteArray) (p : Nat) (hp : p + v.size ≤ s.size) (h : ∀ j (hj : j < v.size), s[p + j] = v[j]) : Lib.occAt s.data.toList v.data.toList p = true := by
  unfold Lib.occAt
  rw [List.isPrefixOf_iff_prefix, List.prefix_iff_getElem?]
  intro i hi
  rw [List.getElem?_drop, ba_get s _ (by have : i < v.size := hi; omega), h i hi]
  rfl

theorem occ_ne (s v : ByteArray) (p j : Nat) (hp : p + v.size ≤ s.size) (hj : j < v.size) (h : s[p + j] ≠ v[j]) : Lib.occAt s.data.toList v.data.toList p = false := by
  cases e : Lib.occAt s.data.toList v.data.toList p with
  | false => rfl
  | true =>
    exfalso
    apply h
    unfold Lib.occAt at e
    rw [List.isPrefixOf_iff_prefix, List.prefix_iff_getElem?] at e
    have := e j hj
    rw [List.getElem?_drop, ba_get s _ (by omega)] at this
    exact Option.some.inj this

theorem u8_ne {a b : UInt8} : a ≠ b ↔ (a.toNat : Int) ≠ b.toNat := by
  constructor
  · intro h e; exact h (UInt8.toNat_inj.1 (by omega))
  · intro h e; exact h (by rw [e])

theorem ix_str (s : ByteArray) (i : Nat) (h : i < s.size) (z : Int) (hz : z = i) (w : World) : (Instr.index 9 (.string s) (.int .i64 z)).run Tryd.prog w = .ok (.int .u8 s[i].toNat) w := by
  subst hz
  rw [run_index_string _ _ _ _ _ Tryd.underlying9]
  have h2 : (0 : Int) ≤ (i : Int) ∧ (i : Int) < s.size := ⟨by omega, by omega⟩
  rw [dif_pos h2]
  simp

set_option maxHeartbeats 1000000 in
set_option maxRecDepth 100000 in
theorem at16 (s v : ByteArray) (p : Nat) (w : World) (hp : p ≤ s.size) (hs : s.size ≤ 1048576) (hv : v.size ≤ 1048576) :
    Calls Tryd.prog 16 #[.string s, .int .i64 p, .string v] w fun e w' => e = .returned (.bool (Lib.occAt s.data.toList v.data.toList p)) ∧ ∃ n, w' = w.drewN n := by
  obtain ⟨r, HR⟩ : ∃ r, Hid (r = Lib.occAt s.data.toList v.data.toList p) := ⟨_, rfl⟩
  rw [← HR.out]
  by_cases hl : s.size - p < v.size
  · have hr : r = false := by rw [HR.out]; exact occ_long s v p hl
    subst hr
    go_enter Tryd.func16, Tryd.ntmps16
    go_wp2
    go_ret
    exact ⟨rfl, 0, rfl⟩
  · have hl2 : p + v.size ≤ s.size := by omega
    go_enter Tryd.func16, Tryd.ntmps16
    go_wp2_with fail
    simp only [decide_eq_false (by omega : ¬ (p : Int) < 0), decide_eq_false (by omega : ¬ (s.size : Int) - p < v.size), decide_eq_false (by omega : ¬ s.size < p), Bool.or_self]
    go_loopw [7] (fun i wr => ∃ (k n : Nat), k ≤ v.size ∧ i = .int .i64 k ∧ wr = w.drewN n ∧ Hid (∀ j (hj : j < v.size), j < k → s[p + j] = v[j])) (fun i _ => v.size - (intOf i).toNat)
    case atStart => exact ⟨0, 0, Nat.zero_le _, rfl, rfl, fun j _ h => absurd h (Nat.not_lt_zero _)⟩
    case round =>
      obtain ⟨k, n, hk, rfl, rfl, HS⟩ := hrel
      by_cases hlt : k < v.size
      · have hlt2 : p + k < s.size := by omega
        have hix1 := ix_str s (p + k) hlt2 (IntKind.i64.wrap ((p : Int) + (k : Int))) (by rw [IntKind.wrap_i64]; omega)
        have hix2 := ix_str v k hlt k rfl
        by_cases hc : s[p + k] = v[k]
        · have HS2 : Hid (∀ j (hj : j < v.size), j < k + 1 → s[p + j] = v[j]) := by
            intro j hj h
            by_cases e : j = k
            · subst e; exact hc
            · exact HS.out j hj (by omega)
          have hcB : ((s[p + k].toNat : Int) != v[k].toNat) = false := by rw [hc]; simp
          clear hc
          go_wp2_with fail
          go_quiet (fail)
          go_wp2
          go_roundw
          case rel => exact ⟨k + 1, n + nq, by omega, by go_num, rfl, HS2⟩
          case measure => simp [intOf]; omega
        · have hr : r = false := by rw [HR.out]; exact occ_ne s v p k hl2 hlt hc
          subst hr
          have hcB : ((s[p + k].toNat : Int) != v[k].toNat) = true := by rw [bne_iff_ne]; exact u8_ne.1 hc
          clear hc
          go_wp2_with fail
          go_quiet (fail)
          go_wp2
          go_ret
          exact ⟨rfl, _, World.drewN_drewN ..⟩
      · have hr : r = true := by rw [HR.out]; exact occ_all s v p hl2 (fun j hj => HS.out j hj (by omega))
        subst hr
        obtain rfl : k = v.size := by omega
        go_wp2
        go_ret
        exact ⟨rfl, _, rfl⟩
end Go.Proofs.Qxb6601974aDoor
