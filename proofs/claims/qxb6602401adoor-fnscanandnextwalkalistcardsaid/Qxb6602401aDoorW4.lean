import Derived.Test.Qxb6602401aDoorW3
import Derived.Test.Qxb6602401aDoorShelf3
namespace Go.Proofs.Qxb6602401aDoor
open Go.RowKit

set_option maxHeartbeats 4000000 in
set_option maxRecDepth 100000 in
theorem any29_long (b off n cap : Nat) (l : List UInt8) (w : World) (hbl : b < w.heap.size) (hc : ∀ i, i < n → w.cell? ⟨b, off + i, none⟩ = some (bc (l.getD i 0))) (hl : l.length = n) (h8 : 8 < n) (hn : n ≤ 1048576) :
    Calls Tryd.prog 29 #[.slice (some ⟨b, off, none⟩) n cap, .string ⟨CH.toArray⟩] w fun e w' => e = .returned (.int .i64 (fz l)) ∧ Below w.heap.size w w' := by
  obtain ⟨C, HC⟩ : ∃ C : ByteArray, Hid (C = ⟨CH.toArray⟩) := ⟨_, rfl⟩
  have hCd : Hid (C.data.toList = CH) := by rw [HC.out]; exact rfl
  have hC8 : C.size = 8 := by rw [HC.out]; rfl
  have hCs1 : C.size ≤ 8 := by omega
  have hCs2 : 8 ≤ C.size := by omega
  clear hC8
  rw [← HC.out]
  have hemp : C.toList.isEmpty = false := by rw [Lib.toList_data, hCd.out]; rfl
  obtain ⟨r0, HR⟩ : ∃ r0, Hid (r0 = fz l) := ⟨_, rfl⟩
  rw [← HR.out]
  have HCE : Hid (∀ i, i < n → w.cell? ⟨b, off + i, none⟩ = some (bc (l.getD i 0))) := hc
  have HL : Hid (l.length = n) := hl
  have hn1 : ((n : Int) == 1) = false := beq_eq_false_iff_ne.2 (by omega)
  have hC1 : ((C.size : Int) == 1) = false := beq_eq_false_iff_ne.2 (by omega)
  have h8z : decide ((8 : Int) < (n : Int)) = true := decide_eq_true (by omega)
  have hv44 := (zero_of_info Tryd.info44).1
  clear hc hl
  obtain ⟨A, HA⟩ : ∃ A, Hid (A = Lib.setCells C.data.toList) := ⟨_, rfl⟩
  have hAs : A.size = 256 := by rw [HA.out, Lib.setCells_size]
  have hsc : (storeCells ⟨w.heap.size + 1, 0, none⟩ A.toList 0).run Tryd.prog ((w.alloc (.cells A 44)).alloc (.cells (Array.replicate 256 (.bool false)) 44)) = .ok () ((w.alloc (.cells A 44)).alloc (.cells A 44)) := by
    have := run_storeCells_new (P := Tryd.prog) (w.alloc (.cells A 44)) 44 (Array.replicate 256 (.bool false)) A (by rw [hAs]; exact (zero_of_info Tryd.info44).2) (by rw [hAs, Array.size_replicate]) (by rw [HA.out]; exact Lib.setCells_one _)
    simpa using this
  have HAT : Hid (∀ x : UInt8, ((w.alloc (.cells A 44)).alloc (.cells A 44)).cell? ⟨w.heap.size + 1, x.toNat, none⟩ = some (.bool (isDl x))) := by
    intro x
    rw [World.cell?_alloc_at _ _ _ _ (by simp), HA.out, Lib.setCells_at, hCd.out]
    congr 2
    rw [Bool.eq_iff_iff, List.contains_iff_mem, ch_mem]
  have hbel : Below w.heap.size w ((w.alloc (.cells A 44)).alloc (.cells A 44)) := ((Below.refl _ _).alloc (Nat.le_refl _) _).alloc (by simp) _
  go_enter Tryd.func29, Tryd.ntmps29
  go_wp2_with fail
  refine (should34 n w).mono ?_
  rintro en w1 ⟨rfl, rfl⟩
  rw [h8z]
  go_wp2_with fail
  refine (Tryd.bytes_makeASCIISet C w1 (by omega) (fun j b hb => ?_)).mono ?_
  · rw [hCd.out] at hb
    have h3 : ∀ c ∈ CH, c.toNat < 128 := by decide
    exact h3 _ (List.mem_of_getElem? hb)
  rintro en w2 ⟨rfl, rfl⟩
  rw [← HA.out]
  go_wp2_with fail
  have HCE2 : Hid (∀ i, i < n → ((w1.alloc (.cells A 44)).alloc (.cells A 44)).cell? ⟨b, off + i, none⟩ = some (bc (l.getD i 0))) := fun i hi => (hbel.cell (p := ⟨b, off + i, none⟩) hbl).trans (HCE.out i hi)
  obtain ⟨w2, hw2⟩ : ∃ w2, w2 = (w1.alloc (.cells A 44)).alloc (.cells A 44) := ⟨_, rfl⟩
  rw [← hw2] at HCE2 HAT hbel ⊢
  clear hw2 hsc HCE hv44
  go_loop [62] (fun y => ∃ (i : Nat), i ≤ n ∧ y = .int .i64 i ∧ Hid (∀ j, j < i → isDl (l.getD j 0) = false)) (fun y => n - (intOf y).toNat)
  case atStart => exact ⟨0, Nat.zero_le _, rfl, fun j h => absurd h (Nat.not_lt_zero _)⟩
  case round =>
    obtain ⟨i, hi, rfl, HN⟩ := hrel
    by_cases hlt : i < n
    · have hcell := HCE2.out i hlt
      obtain ⟨x, hx⟩ : ∃ x, x = l.getD i 0 := ⟨_, rfl⟩
      rw [← hx] at hcell
      unfold bc at hcell
      have hin := HAT.out x
      cases hd : isDl x
      · rw [hd] at hin
        have HN2 : Hid (∀ j, j < i + 1 → isDl (l.getD j 0) = false) := by
          intro j hj
          by_cases e : j = i
          · subst e; rw [← hx]; exact hd
          · exact HN.out j (by omega)
        clear hx hd
        go_wp2_with fail
        refine (Tryd.asciiSet_contains (w1.heap.size + 1) x false w2 hin).mono ?_
        rintro en w3 ⟨rfl, rfl⟩
        go_wp2
        go_round
        case rel => exact ⟨i + 1, hlt, by go_num, HN2⟩
        case measure => simp [intOf]; omega
      · rw [hd] at hin
        have hr : r0 = i := by
          rw [HR.out]
          exact fz_hit l i (by rw [HL.out]; exact hlt) (by rw [← hx]; exact hd) HN.out
        subst hr
        clear hx hd
        go_wp2_with fail
        refine (Tryd.asciiSet_contains (w1.heap.size + 1) x true w2 hin).mono ?_
        rintro en w3 ⟨rfl, rfl⟩
        go_wp2
        go_ret
        exact ⟨rfl, hbel⟩
    · obtain rfl : i = n := by omega
      have hr : r0 = -1 := by rw [HR.out]; exact fz_none l (by rw [HL.out]; exact HN.out)
      subst hr
      go_wp2
      go_ret
      exact ⟨rfl, hbel⟩

theorem any29 (b off n cap : Nat) (l : List UInt8) (m : Int) (w : World) (hbl : b < w.heap.size) (hc : ∀ i, i < n → w.cell? ⟨b, off + i, none⟩ = some (bc (l.getD i 0))) (hl : l.length = n) (h1 : 1 ≤ n) (hn : n ≤ 1048576) (hcap : n ≤ cap)
    (hm : w.cell? ⟨0, 0, none⟩ = some (.int .i64 m)) (hT : Lib.Utf8Tabs 1 2 w) :
    Calls Tryd.prog 29 #[.slice (some ⟨b, off, none⟩) n cap, .string ⟨CH.toArray⟩] w fun e w' => e = .returned (.int .i64 (fz l)) ∧ Below w.heap.size w w' := by
  by_cases h : n = 1
  · subst h
    obtain ⟨x, rfl⟩ := List.length_eq_one_iff.1 hl
    have h0 := any29_one b off cap x w (by simpa using hc 0 (by omega))
    have : fz [x] = if isDl x then 0 else -1 := by
      unfold fz ixd ixd
      cases isDl x <;> rfl
    rw [this]
    exact h0
  · by_cases h8 : n ≤ 8
    · exact any29_mid b off n cap l m w hbl hc hl (by omega) h8 hcap hm hT
    · exact any29_long b off n cap l w hbl hc hl (by omega) hn
end Go.Proofs.Qxb6602401aDoor
