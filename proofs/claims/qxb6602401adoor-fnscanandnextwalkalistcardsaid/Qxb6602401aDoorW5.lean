import Derived.Test.Qxb6602401aDoorPl2
import Derived.Test.Qxb6602401aDoorW4
namespace Go.Proofs.Qxb6602401aDoor
open Go.RowKit

theorem nums_of (l : List UInt8) : Lib.bytesOf (l.map fun c => (c.toNat : Int)) = l := by
  unfold Lib.bytesOf
  rw [List.map_map]
  have : ((fun n : Int => UInt8.ofNat n.toNat) ∘ fun c : UInt8 => (c.toNat : Int)) = id := by
    funext c
    show UInt8.ofNat (c.toNat : Int).toNat = c
    rw [Int.toNat_natCast]
    exact UInt8.ofNat_toNat
  rw [this, List.map_id]

theorem ibyte31 (b off n cap : Nat) (l : List UInt8) (w : World) (hl : l.length = n) (hc : ∀ i, i < n → w.cell? ⟨b, off + i, none⟩ = some (bc (l.getD i 0))) :
    Calls Tryd.prog 31 #[.slice (some ⟨b, off, none⟩) n cap, .int .u8 34] w fun e w' => e = .returned (.int .i64 (Lib.indexByte l 34)) ∧ w' = w := by
  have h := Tryd.bytes_IndexByte b off n cap (l.map fun c => (c.toNat : Int)) 34 w (by simp [hl]) (fun i hi => by
    rw [hc i hi]
    simp [bc, (by omega : i < l.length)])
  rw [nums_of] at h
  exact h

set_option maxHeartbeats 2000000 in
set_option maxRecDepth 100000 in
theorem quote27 (b off n cap : Nat) (l : List UInt8) (fr : Nat) (w : World) (hc : ∀ i, i < n → w.cell? ⟨b, off + i, none⟩ = some (bc (l.getD i 0))) (hl : l.length = n) (hn : n ≤ 1048576) (hcap : n ≤ cap) (hcap2 : cap ≤ 9223372036854775807) (hf1 : 1 ≤ fr) (hf2 : fr ≤ n) (hne : l.getD (fr - 1) 0 ≠ 92) :
    Calls Tryd.prog 27 #[.slice (some ⟨b, off, none⟩) n cap, .int .i64 fr] w fun e w' => e = .returned (.int .i64 (cqa (l.drop fr) fr false)) ∧ w' = w := by
  obtain ⟨r0, HR⟩ : ∃ r0, Hid (r0 = cqa (l.drop fr) fr false) := ⟨_, rfl⟩
  rw [← HR.out]
  have HCE : Hid (∀ i, i < n → w.cell? ⟨b, off + i, none⟩ = some (bc (l.getD i 0))) := hc
  have HL : Hid (l.length = n) := hl
  clear hc hl
  go_enter Tryd.func27, Tryd.ntmps27
  go_wp2_with fail
  go_loop [1] (fun y => ∃ (f : Nat), 1 ≤ f ∧ f ≤ n ∧ y = .int .i64 f ∧ Hid (r0 = cqa (l.drop f) f false ∧ l.getD (f - 1) 0 ≠ 92)) (fun y => n - (intOf y).toNat)
  case atStart => exact ⟨fr, hf1, hf2, rfl, HR.out, hne⟩
  case round =>
    clear hf1 hf2 hne HR
    obtain ⟨f, hf1, hf2, rfl, HI⟩ := hrel
    have HIB : Hid (∀ o c, (o = off + f ∨ n - f = 0) → Calls Tryd.prog 31 #[.slice (some ⟨b, o, none⟩) (n - f) c, .int .u8 34] w fun e w' => e = .returned (.int .i64 (Lib.indexByte (l.drop f) 34)) ∧ w' = w) := by
      intro o c ho
      refine ibyte31 b o (n - f) c (l.drop f) w (by rw [List.length_drop, HL.out]) (fun i hi => ?_)
      rcases ho with rfl | ho
      · rw [Nat.add_assoc, HCE.out (f + i) (by omega)]
        simp [List.getD_eq_getElem?_getD]
      · omega
    rcases ib_cases (l.drop f) 34 with ⟨hi, hno⟩ | ⟨k, hi, hk, hq, hno⟩
    · have hr : r0 = n := by rw [HI.out.1, cqa_none _ _ _ hno, List.length_drop, HL.out]; omega
      subst hr
      rw [hi] at HIB
      clear hno hi HI
      by_cases hfc : f < cap
      · go_wp2_with fail
        refine Calls.mono (HIB.out _ _ (.inl rfl)) ?_
        rintro en w1 ⟨rfl, rfl⟩
        go_wp2
        go_ret
        exact ⟨rfl, rfl⟩
      · obtain rfl : f = cap := by omega
        obtain rfl : r0 = f := by omega
        go_wp2_with fail
        refine (ibyte31 b off 0 0 [] w rfl (fun i h => absurd h (Nat.not_lt_zero _))).mono ?_
        rintro en w1 ⟨rfl, rfl⟩
        rw [show Lib.indexByte [] 34 = -1 from rfl]
        go_wp2
        go_ret
        exact ⟨rfl, rfl⟩
    · rw [hi] at HIB
      rw [List.length_drop, HL.out] at hk
      have HQ : Hid (l.getD (f + k) 0 = 34) := by
        have h := hq
        rw [List.getD_eq_getElem?_getD, List.getElem?_drop, ← List.getD_eq_getElem?_getD] at h
        exact h
      have HNO : Hid (∀ j, f ≤ j → j < f + k → l.getD j 0 ≠ 34) := by
        intro j h1 h2
        have h := hno (j - f) (by omega)
        rw [List.getD_eq_getElem?_getD, List.getElem?_drop, ← List.getD_eq_getElem?_getD, show f + (j - f) = j from by omega] at h
        exact h
      clear hi hq hno
      go_wp2_with fail
      refine Calls.mono (HIB.out _ _ (.inl rfl)) ?_
      rintro en w1 ⟨rfl, rfl⟩
      clear HIB
      go_wp2_with fail
      rw [decide_eq_false (by omega : ¬ (k : Int) < 0)]
      go_loop [6] (fun y => ∃ (bs : Nat), bs ≤ k ∧ y = .int .i64 bs ∧ Hid (∀ j, j < bs → l.getD (f + k - 1 - j) 0 = 92)) (fun y => k + 1 - (intOf y).toNat)
      case atStart => exact ⟨0, Nat.zero_le _, rfl, fun j h => absurd h (Nat.not_lt_zero _)⟩
      case round =>
        obtain ⟨bs, hbk, rfl, HB⟩ := hrel
        obtain ⟨p, Hp, hpz, hpn⟩ : ∃ p : Nat, Hid (p = f + k - 1 - bs) ∧ ((k : Int) + (f : Int) - 1 - (bs : Int)) = (p : Int) ∧ p < n := ⟨_, rfl, by omega, by omega⟩
        have hcell := HCE.out p hpn
        unfold bc at hcell
        by_cases h92 : l.getD p 0 = 92
        · have hlt : bs < k := by
            rcases Nat.lt_or_ge bs k with h | h
            · exact h
            · exfalso
              have : p = f - 1 := by rw [Hp.out]; omega
              rw [this] at h92
              exact HI.out.2 h92
          have HB2 : Hid (∀ j, j < bs + 1 → l.getD (f + k - 1 - j) 0 = 92) := by
            intro j hj
            by_cases e : j = bs
            · subst e; rw [← Hp.out]; exact h92
            · exact HB.out j (by omega)
          rw [h92] at hcell
          clear h92
          go_wp2
          go_round
          case rel => exact ⟨bs + 1, hlt, by go_num, HB2⟩
          case measure => simp [intOf]; omega
        · have hstep := cq_step l f (f + k) bs (by omega) (by rw [HL.out]; omega) HQ.out HNO.out (by omega) HB.out (.inr (by rw [← Hp.out]; exact h92))
          rw [← HI.out.1] at hstep
          obtain ⟨x, hx⟩ : ∃ x, x = l.getD p 0 := ⟨_, rfl⟩
          rw [← hx] at hcell h92
          have hxB : ((x.toNat : Int) == 92) = false := (u8_is x 92 (by decide)).trans (beq_eq_false_iff_ne.2 h92)
          clear hx h92 HB HI HNO
          by_cases hpar : bs % 2 = 0
          · rw [if_pos hpar] at hstep
            subst hstep
            have hm1 : (bs : Int).tmod 2 = 0 := by rw [Int.tmod_eq_emod_of_nonneg (by omega)]; omega
            go_wp2
            go_ret
            exact ⟨by go_num, rfl⟩
          · rw [if_neg hpar] at hstep
            have hm1 : (bs : Int).tmod 2 = 1 := by rw [Int.tmod_eq_emod_of_nonneg (by omega)]; omega
            have HI2 : Hid (r0 = cqa (l.drop (f + k + 1)) (f + k + 1) false ∧ l.getD (f + k + 1 - 1) 0 ≠ 92) := ⟨hstep, by rw [show f + k + 1 - 1 = f + k from rfl, HQ.out]; decide⟩
            clear hstep HQ
            go_wp2
            go_round
            case rel => exact ⟨f + k + 1, by omega, by omega, by go_num, HI2⟩
            case measure => simp [intOf]; omega
end Go.Proofs.Qxb6602401aDoor
