import Derived.Test.Qxb6601701aDoorW3
import Derived.Test.Qxb6601701aDoorPl2
namespace Go.Proofs.Qxb6601701aDoor
open Go.RowKit

theorem get_at (A s : List UInt8) (c : UInt8) : (A ++ c :: s).getD A.length 0 = c := by simp
theorem get_past (A s : List UInt8) (c : UInt8) (k : Nat) (h1 : A.length < k) (h2 : k < (A ++ c :: s).length) (hs : c ∉ s) : (A ++ c :: s).getD k 0 ≠ c := by
  rw [List.getD_eq_getElem?_getD, List.getElem?_append_right (by omega)]
  obtain ⟨j, hj⟩ : ∃ j, k - A.length = j + 1 := ⟨k - A.length - 1, by omega⟩
  rw [hj, List.getElem?_cons_succ]
  have hl : j < s.length := by simp at h2; omega
  rw [List.getElem?_eq_getElem hl]
  intro e
  apply hs
  simp at e
  rw [← e]
  exact List.getElem_mem hl

set_option maxHeartbeats 400000 in
theorem pop_some (g cap : Nat) (A s : List UInt8) (w : World) (hs : (47 : UInt8) ∉ s) (hl : A.length + 1 + s.length ≤ cap) (hc : cap ≤ 1048576)
    (hcell : ∀ i, i < (A ++ 47 :: s).length → w.cell? ⟨g, i, none⟩ = some (.int .u8 ((A ++ 47 :: s).getD i 0).toNat)) :
    Calls Tryd.prog 34 #[.slice (some ⟨g, 0, none⟩) (A ++ 47 :: s).length cap] w fun e w' => e = .returned (.slice (some ⟨g, 0, none⟩) A.length cap) ∧ w' = w := by
  obtain ⟨L, HL⟩ : ∃ L, Hid (L = A ++ 47 :: s) := ⟨_, rfl⟩
  have hLl1 : L.length ≤ A.length + 1 + s.length := by rw [HL.out]; simp; omega
  have hLl2 : A.length + 1 + s.length ≤ L.length := by rw [HL.out]; simp; omega
  rw [← HL.out] at hcell ⊢
  have HC : Hid _ := hcell
  clear hcell
  go_enter Tryd.func34, Tryd.ntmps34
  go_wp2_with fail
  go_loop [3] (fun j => ∃ k : Nat, A.length ≤ k ∧ k < L.length ∧ j = .int .i64 k) (fun j => (intOf j).toNat)
  case atStart => exact ⟨L.length - 1, by omega, by omega, by go_num⟩
  case round =>
    obtain ⟨k, hk1, hk2, rfl⟩ := hrel
    have hcell := HC.out k hk2
    by_cases hk : k = A.length
    · subst hk
      have h47 : (L.getD A.length 0) = 47 := by rw [HL.out]; exact get_at A s 47
      rw [h47] at hcell
      clear h47
      go_wp2
      go_ret
      exact ⟨rfl, rfl⟩
    · have hne : (L.getD k 0) ≠ 47 := by
        have h := HL.out
        subst h
        exact get_past A s 47 k (by omega) hk2 hs
      obtain ⟨c, hcc⟩ : ∃ c, c = L.getD k 0 := ⟨_, rfl⟩
      rw [← hcc] at hcell hne
      clear hcc
      have hcB : ((c.toNat : Int) != 47) = true := by rw [bne_iff_ne]; exact fun h => hne ((is47 _).2 h)
      clear hne
      go_wp2
      go_round
      case rel => exact ⟨k - 1, by omega, by omega, by go_num⟩
      case measure => simp [intOf]; omega

set_option maxHeartbeats 400000 in
theorem pop_nil (g cap : Nat) (w : World) :
    Calls Tryd.prog 34 #[.slice (some ⟨g, 0, none⟩) 0 cap] w fun e w' => e = .returned (.slice (some ⟨g, 0, none⟩) 0 cap) ∧ w' = w := by
  go_enter Tryd.func34, Tryd.ntmps34
  go_wp2_with fail
  refine wp_loop_rounds 1 ?_
  rw [rounds_succ]
  go_wp2
  go_ret
  exact ⟨rfl, rfl⟩

theorem sfx2 (s : ByteArray) (h : 2 ≤ s.size) : [47, 46].isSuffixOf s.data.toList = (decide ((s[s.size - 2].toNat : Int) = 47) && decide ((s[s.size - 1].toNat : Int) = 46)) := by
  have hl : s.data.toList = s.data.toList.take (s.size - 2) ++ [s[s.size - 2], s[s.size - 1]] := by
    conv => lhs; rw [← List.take_append_drop (s.size - 2) s.data.toList]
    congr 1
    rw [List.drop_eq_getElem_cons (show s.size - 2 < s.data.toList.length from by show s.size - 2 < s.size; omega)]
    congr 1
    rw [List.drop_eq_getElem_cons (show s.size - 2 + 1 < s.data.toList.length from by show s.size - 2 + 1 < s.size; omega)]
    simp only [show s.size - 2 + 1 = s.size - 1 from by omega]
    rw [List.drop_of_length_le (by show s.size ≤ s.size - 1 + 1; omega)]
    rfl
  rw [hl, Bool.eq_iff_iff, List.isSuffixOf_iff_suffix]
  simp only [Bool.and_eq_true, decide_eq_true_eq]
  constructor
  · rintro ⟨Y, hY⟩
    have h2 := congrArg List.reverse hY
    simp at h2
    rw [← h2.1, ← h2.2.1]; decide
  · rintro ⟨e1, e2⟩
    rw [(is47 _).2 e1, show s[s.size - 1] = 46 from by apply UInt8.toNat_inj.1; simp; omega]
    exact ⟨_, rfl⟩

theorem sfx3 (s : ByteArray) (h : 3 ≤ s.size) : [47, 46, 46].isSuffixOf s.data.toList = (decide ((s[s.size - 3].toNat : Int) = 47) && (decide ((s[s.size - 2].toNat : Int) = 46) && decide ((s[s.size - 1].toNat : Int) = 46))) := by
  have hl : s.data.toList = s.data.toList.take (s.size - 3) ++ [s[s.size - 3], s[s.size - 2], s[s.size - 1]] := by
    conv => lhs; rw [← List.take_append_drop (s.size - 3) s.data.toList]
    congr 1
    rw [List.drop_eq_getElem_cons (show s.size - 3 < s.data.toList.length from by show s.size - 3 < s.size; omega)]
    congr 1
    rw [List.drop_eq_getElem_cons (show s.size - 3 + 1 < s.data.toList.length from by show s.size - 3 + 1 < s.size; omega)]
    simp only [show s.size - 3 + 1 = s.size - 2 from by omega]
    congr 1
    rw [List.drop_eq_getElem_cons (show s.size - 2 + 1 < s.data.toList.length from by show s.size - 2 + 1 < s.size; omega)]
    simp only [show s.size - 2 + 1 = s.size - 1 from by omega]
    rw [List.drop_of_length_le (by show s.size ≤ s.size - 1 + 1; omega)]
    rfl
  rw [hl, Bool.eq_iff_iff, List.isSuffixOf_iff_suffix]
  simp only [Bool.and_eq_true, decide_eq_true_eq]
  constructor
  · rintro ⟨Y, hY⟩
    have h2 := congrArg List.reverse hY
    simp at h2
    rw [← h2.1, ← h2.2.1, ← h2.2.2.1]; decide
  · rintro ⟨e1, e2, e3⟩
    rw [(is47 _).2 e1, show s[s.size - 1] = 46 from by apply UInt8.toNat_inj.1; simp; omega, show s[s.size - 2] = 46 from by apply UInt8.toNat_inj.1; simp; omega]
    exact ⟨_, rfl⟩

theorem sfx_short (x l : List UInt8) (h : l.length < x.length) : x.isSuffixOf l = false := by
  cases h2 : x.isSuffixOf l
  · rfl
  · rw [List.isSuffixOf_iff_suffix] at h2
    have := h2.length_le
    omega

set_option maxHeartbeats 1000000 in
set_option maxRecDepth 100000 in
theorem ends_any (s : ByteArray) (w : World) (hs : s.size ≤ 1048576) :
    Calls Tryd.prog 23 #[.string s] w fun e w' => e = .returned (.bool (endD s.data.toList)) ∧ w' = w := by
  obtain ⟨b2, H2⟩ : ∃ b, Hid (b = [47, 46].isSuffixOf s.data.toList) := ⟨_, rfl⟩
  obtain ⟨b3, H3⟩ : ∃ b, Hid (b = [47, 46, 46].isSuffixOf s.data.toList) := ⟨_, rfl⟩
  have HE : Hid (endD s.data.toList = (b2 || b3)) := by rw [H2.out, H3.out]; exact rfl
  go_enter Tryd.func23, Tryd.ntmps23
  go_upto_region 2 with fail
  go_cut [21] from 4 to 20 (fun v wx => v = .bool b2 ∧ w = wx)
  case first =>
    by_cases h2 : 2 ≤ s.size
    · have hx := sfx2 s h2
      rw [← H2.out] at hx
      by_cases e1 : (s[s.size - 2].toNat : Int) = 47
      · have e1B : ((s[s.size - 2].toNat : Int) == 47) = true := beq_iff_eq.2 e1
        have HX : Hid (b2 = decide ((s[s.size - 1].toNat : Int) = 46)) := by rw [hx, decide_eq_true e1]; exact rfl
        clear hx e1
        by_cases e2 : (s[s.size - 1].toNat : Int) = 46
        · have e2B : ((s[s.size - 1].toNat : Int) == 46) = true := beq_iff_eq.2 e2
          have HY : Hid (b2 = true) := by rw [HX.out, decide_eq_true e2]; exact rfl
          clear e2 HX
          go_wp2
          go_meet
          case rel => exact ⟨by rw [HY.out], rfl⟩
        · have e2B : ((s[s.size - 1].toNat : Int) == 46) = false := beq_eq_false_iff_ne.2 e2
          have HY : Hid (b2 = false) := by rw [HX.out, decide_eq_false e2]; exact rfl
          clear e2 HX
          go_wp2
          go_meet
          case rel => exact ⟨by rw [HY.out], rfl⟩
      · have e1B : ((s[s.size - 2].toNat : Int) == 47) = false := beq_eq_false_iff_ne.2 e1
        have HY : Hid (b2 = false) := by rw [hx, decide_eq_false e1]; exact rfl
        clear hx e1
        go_wp2
        go_meet
        case rel => exact ⟨by rw [HY.out], rfl⟩
    · have HY : Hid (b2 = false) := by rw [H2.out, sfx_short _ _ (by show s.size < 2; omega)]; exact rfl
      go_wp2
      go_meet
      case rel => exact ⟨by rw [HY.out], rfl⟩
  case rest =>
    obtain ⟨rfl, rfl⟩ := hcut
    cases b2
    · go_upto_region 4 with fail
      go_cut [2] from 4 to 44 (fun v wx => v = .bool b3 ∧ w = wx)
      case first =>
        by_cases h2 : 3 ≤ s.size
        · have hx := sfx3 s h2
          rw [← H3.out] at hx
          by_cases e1 : (s[s.size - 3].toNat : Int) = 47
          · have e1B : ((s[s.size - 3].toNat : Int) == 47) = true := beq_iff_eq.2 e1
            have HX : Hid (b3 = (decide ((s[s.size - 2].toNat : Int) = 46) && decide ((s[s.size - 1].toNat : Int) = 46))) := by rw [hx, decide_eq_true e1]; exact rfl
            clear hx e1
            by_cases e2 : (s[s.size - 2].toNat : Int) = 46
            · have e2B : ((s[s.size - 2].toNat : Int) == 46) = true := beq_iff_eq.2 e2
              have HZ : Hid (b3 = decide ((s[s.size - 1].toNat : Int) = 46)) := by rw [HX.out, decide_eq_true e2]; exact rfl
              clear e2 HX
              by_cases e3 : (s[s.size - 1].toNat : Int) = 46
              · have e3B : ((s[s.size - 1].toNat : Int) == 46) = true := beq_iff_eq.2 e3
                have HY : Hid (b3 = true) := by rw [HZ.out, decide_eq_true e3]; exact rfl
                clear e3 HZ
                go_wp2
                go_meet
                case rel => exact ⟨by rw [HY.out], rfl⟩
              · have e3B : ((s[s.size - 1].toNat : Int) == 46) = false := beq_eq_false_iff_ne.2 e3
                have HY : Hid (b3 = false) := by rw [HZ.out, decide_eq_false e3]; exact rfl
                clear e3 HZ
                go_wp2
                go_meet
                case rel => exact ⟨by rw [HY.out], rfl⟩
            · have e2B : ((s[s.size - 2].toNat : Int) == 46) = false := beq_eq_false_iff_ne.2 e2
              have HY : Hid (b3 = false) := by rw [HX.out, decide_eq_false e2]; exact rfl
              clear e2 HX
              go_wp2
              go_meet
              case rel => exact ⟨by rw [HY.out], rfl⟩
          · have e1B : ((s[s.size - 3].toNat : Int) == 47) = false := beq_eq_false_iff_ne.2 e1
            have HY : Hid (b3 = false) := by rw [hx, decide_eq_false e1]; exact rfl
            clear hx e1
            go_wp2
            go_meet
            case rel => exact ⟨by rw [HY.out], rfl⟩
        · have HY : Hid (b3 = false) := by rw [H3.out, sfx_short _ _ (by show s.size < 3; omega)]; exact rfl
          go_wp2
          go_meet
          case rel => exact ⟨by rw [HY.out], rfl⟩
      case rest =>
        obtain ⟨rfl, rfl⟩ := hcut
        go_wp2
        go_ret
        exact ⟨ret_bool (by rw [HE.out]; rfl), rfl⟩
    · go_wp2
      go_ret
      exact ⟨ret_bool (by rw [HE.out]; rfl), rfl⟩
end Go.Proofs.Qxb6601701aDoor
