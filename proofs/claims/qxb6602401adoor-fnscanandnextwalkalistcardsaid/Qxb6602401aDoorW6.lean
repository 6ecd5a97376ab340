import Derived.Test.Qxb6602401aDoorPl3
import Derived.Test.Qxb6602401aDoorW5
namespace Go.Proofs.Qxb6602401aDoor
open Go.RowKit

theorem drop_at (l : List UInt8) (i : Nat) (h : i < l.length) : l.drop i = l.getD i 0 :: l.drop (i + 1) := by
  rw [List.drop_eq_getElem_cons h]
  simp [h]

theorem ret_scan {a : Nat} {b : Int} {R : Nat × Int} (h : R = (a, b)) : Ending.returned (.tuple #[.int .i64 (a : Int), .int .i64 b]) = .returned (.tuple #[.int .i64 (R.1 : Int), .int .i64 R.2]) := by rw [h]

/-- scan's loop at place i -/
def ScI (l : List UInt8) (n i : Nat) (d m : Int) (R : Nat × Int) : Prop := (i ≤ n ∧ R = auto (l.drop i) i 0 d m) ∨ (i = n + 1 ∧ R = (n, m))

theorem sci_quote (l : List UInt8) (n i : Nat) (d m : Int) (R : Nat × Int) (hl : l.length = n) (hi : i < n) (h : ScI l n i d m R) (h34 : l.getD i 0 = 34) :
    (cqa (l.drop (i + 1)) (i + 1) false ≤ n ∧ i + 1 ≤ cqa (l.drop (i + 1)) (i + 1) false) ∧
    (d = 0 → R = (min (cqa (l.drop (i + 1)) (i + 1) false + 1) n, 0)) ∧ (d ≠ 0 → ScI l n (cqa (l.drop (i + 1)) (i + 1) false + 1) d m R) := by
  have hb := cqa_bd (l.drop (i + 1)) (i + 1) false
  rw [List.length_drop, hl] at hb
  rcases h with ⟨_, h⟩ | ⟨h, _⟩
  · rw [drop_at l i (by omega), auto_cons, if_pos rfl, if_pos h34, (auto_str _ _ d m).1] at h
    unfold strEnd at h
    rw [List.length_drop, hl, show i + 1 + (n - (i + 1)) = n from by omega] at h
    generalize cqa (l.drop (i + 1)) (i + 1) false = q at *
    refine ⟨⟨by omega, hb.1⟩, fun h0 => ?_, fun h0 => ?_⟩
    · rw [if_pos h0, if_pos h0] at h
      rw [h]
      split
      · rw [Nat.min_eq_left (by omega)]
      · rw [Nat.min_eq_right (by omega)]
    · rw [if_neg h0, if_neg h0] at h
      by_cases hq : q < n
      · rw [if_pos hq, List.drop_drop, show i + 1 + (q + 1 - (i + 1)) = q + 1 from by omega] at h
        exact .inl ⟨by omega, h⟩
      · rw [if_neg hq] at h
        exact .inr ⟨by omega, h⟩
  · omega

theorem sci_out (l : List UInt8) (n i : Nat) (d m : Int) (R : Nat × Int) (hl : l.length = n) (hi : i < n) (h : ScI l n i d m R) (x : UInt8) (hx : x = l.getD i 0) (h34 : x ≠ 34) :
    R = if isOp x then auto (l.drop (i + 1)) (i + 1) 0 (d + 1) (max m (d + 1))
      else if isCl x then (if d - 1 = 0 then (i + 1, m) else auto (l.drop (i + 1)) (i + 1) 0 (d - 1) m)
      else if d = 0 ∧ isSp x = false then (i + ixd (l.drop i), 0)
      else auto (l.drop (i + 1)) (i + 1) 0 d m := by
  rcases h with ⟨_, h⟩ | ⟨h, _⟩
  · rw [drop_at l i (by omega), auto_cons, if_pos rfl, ← hx, if_neg h34, hx, ← drop_at l i (by omega)] at h
    rw [hx]
    exact h
  · omega

theorem u8_lit (x : UInt8) (k : Nat) (hk : k < 256) (h : x ≠ UInt8.ofNat k) : ((x.toNat : Int) == (k : Int)) = false := by
  rw [u8_is x k hk]; exact beq_eq_false_iff_ne.2 h

set_option maxHeartbeats 4000000 in
set_option maxRecDepth 100000 in
theorem scan21_some (b off n cap : Nat) (l : List UInt8) (mx : Int) (w : World) (hbl : b < w.heap.size) (hc : ∀ i, i < n → w.cell? ⟨b, off + i, none⟩ = some (bc (l.getD i 0))) (hl : l.length = n) (hn : n ≤ 1048576) (hcap : n ≤ cap) (hcap2 : cap ≤ 9223372036854775807)
    (hm : w.cell? ⟨0, 0, none⟩ = some (.int .i64 mx)) (hT : Lib.Utf8Tabs 1 2 w) :
    Calls Tryd.prog 21 #[.slice (some ⟨b, off, none⟩) n cap] w fun e w' => e = .returned (.tuple #[.int .i64 ((auto l 0 0 0 0).1 : Int), .int .i64 (auto l 0 0 0 0).2]) ∧ Below w.heap.size w w' := by
  obtain ⟨R, HR⟩ : ∃ R, Hid (R = auto l 0 0 0 0) := ⟨_, rfl⟩
  rw [← HR.out]
  have HCE : Hid (∀ i, i < n → w.cell? ⟨b, off + i, none⟩ = some (bc (l.getD i 0))) := hc
  have HM : Hid (w.cell? ⟨0, 0, none⟩ = some (.int .i64 mx)) := hm
  have HT : Hid (Lib.Utf8Tabs 1 2 w) := hT
  have HL : Hid (l.length = n) := hl
  clear hc hm hT hl
  go_enter Tryd.func21, Tryd.ntmps21
  go_wp2_with fail
  go_loop [3, 4, 5] (fun v3 v4 v5 => ∃ (i : Nat) (d m : Int), i ≤ n + 1 ∧ v5 = .int .i64 i ∧ v4 = .int .i64 d ∧ v3 = .int .i64 m ∧ -(i : Int) ≤ d ∧ d ≤ i ∧ 0 ≤ m ∧ m ≤ i ∧ Hid (ScI l n i d m R)) (fun _ _ v5 => n + 1 - (intOf v5).toNat)
  case atStart => exact ⟨0, 0, 0, by omega, rfl, rfl, rfl, by omega, by omega, by omega, by omega, .inl ⟨by omega, HR.out⟩⟩
  case round =>
    obtain ⟨i, d, m, hi, rfl, rfl, rfl, hd1, hd2, hm1, hm2, HS⟩ := hrel
    by_cases hlt : i < n
    · have hcell := HCE.out i hlt
      have hout := fun x hx h34 => sci_out l n i d m R HL.out hlt HS.out x hx h34
      by_cases hx : l.getD i 0 = 34
      · obtain ⟨⟨q1, q2⟩, q3, q4⟩ := sci_quote l n i d m R HL.out hlt HS.out hx
        have hq27 := quote27 b off n cap l (i + 1) w HCE.out HL.out hn hcap hcap2 (by omega) (by omega) (by rw [Nat.add_sub_cancel, hx]; decide)
        rw [hx] at hcell
        unfold bc at hcell
        obtain ⟨q, Hq⟩ : ∃ q, Hid (q = cqa (l.drop (i + 1)) (i + 1) false) := ⟨_, rfl⟩
        rw [← Hq.out] at q1 q2 q3 q4 hq27
        have HQ : Hid (Calls Tryd.prog 27 #[.slice (some ⟨b, off, none⟩) n cap, .int .i64 ((i + 1 : Nat) : Int)] w fun e w' => e = .returned (.int .i64 q) ∧ w' = w) := hq27
        clear hq27 hx hout Hq
        by_cases hd : d = 0
        · subst hd
          have HR2 : Hid (R = (min (q + 1) n, 0)) := q3 rfl
          clear q3 q4
          go_wp2_with fail
          refine Calls.mono (by simpa using HQ.out) ?_
          rintro en w1 ⟨rfl, rfl⟩
          go_wp2
          refine bodyPost_ret (v := .tuple #[.int .i64 ((min (q + 1) n : Nat) : Int), .int .i64 0]) ?_ rfl ⟨ret_scan HR2.out, Below.refl _ _⟩
          simp [results, Tryd.results21, go_sem]
          try omega
        · have HS2 : Hid (ScI l n (q + 1) d m R) := q4 hd
          have hdB : ((d : Int) == 0) = false := beq_eq_false_iff_ne.2 hd
          clear q3 q4 hd
          go_wp2_with fail
          refine Calls.mono (by simpa using HQ.out) ?_
          rintro en w1 ⟨rfl, rfl⟩
          go_wp2
          go_round
          case rel => exact ⟨q + 1, d, m, by omega, by go_num, rfl, rfl, by omega, by omega, by omega, by omega, HS2⟩
          case measure => simp [intOf]; omega
      · by_cases hx1 : l.getD i 0 = 91
        · have hx' := hx1
          have hR : R = auto (l.drop (i + 1)) (i + 1) 0 (d + 1) (max m (d + 1)) := by
            rw [hout 91 hx1.symm (by decide), if_pos (by decide)]
          have HS2 : Hid (ScI l n (i + 1) (d + 1) (max m (d + 1)) R) := .inl ⟨by omega, hR⟩
          rw [hx1] at hcell
          unfold bc at hcell
          clear hx hx1 hx' hR hout
          go_wp2
          go_round
          case rel => exact ⟨i + 1, d + 1, max m (d + 1), by omega, by go_num, by go_num, by go_num, by omega, by omega, by omega, by omega, HS2⟩
          case measure => simp [intOf]; omega
        · by_cases hx2 : l.getD i 0 = 123
          · have hx' := hx2
            have hR : R = auto (l.drop (i + 1)) (i + 1) 0 (d + 1) (max m (d + 1)) := by
              rw [hout 123 hx2.symm (by decide), if_pos (by decide)]
            have HS2 : Hid (ScI l n (i + 1) (d + 1) (max m (d + 1)) R) := .inl ⟨by omega, hR⟩
            rw [hx2] at hcell
            unfold bc at hcell
            clear hx hx1 hx2 hx' hR hout
            go_wp2
            go_round
            case rel => exact ⟨i + 1, d + 1, max m (d + 1), by omega, by go_num, by go_num, by go_num, by omega, by omega, by omega, by omega, HS2⟩
            case measure => simp [intOf]; omega
          · by_cases hx3 : l.getD i 0 = 93
            · have hx' := hx3
              have hR := hout 93 hx3.symm (by decide)
              rw [if_neg (by decide), if_pos (by decide)] at hR
              rw [hx3] at hcell
              unfold bc at hcell
              clear hx hx1 hx2 hx3 hx' hout
              by_cases hd : d = 1
              · rw [if_pos (by omega)] at hR
                have hdB : ((d : Int) - 1 == 0) = true := by rw [hd]; rfl
                have HR2 : Hid (R = (i + 1, m)) := hR
                clear hR hd
                go_wp2
                exact bodyPost_ret (v := .tuple #[.int .i64 ((i + 1 : Nat) : Int), .int .i64 m]) (by simp [results, Tryd.results21, go_sem]) rfl ⟨ret_scan HR2.out, Below.refl _ _⟩
              · rw [if_neg (by omega)] at hR
                have hdB : ((d : Int) - 1 == 0) = false := beq_eq_false_iff_ne.2 (by omega)
                have HS2 : Hid (ScI l n (i + 1) (d - 1) m R) := .inl ⟨by omega, hR⟩
                clear hR hd
                go_wp2
                go_round
                case rel => exact ⟨i + 1, d - 1, m, by omega, by go_num, by go_num, by go_num, by omega, by omega, by omega, by omega, HS2⟩
                case measure => simp [intOf]; omega
            · by_cases hx4 : l.getD i 0 = 125
              · have hx' := hx4
                have hR := hout 125 hx4.symm (by decide)
                rw [if_neg (by decide), if_pos (by decide)] at hR
                rw [hx4] at hcell
                unfold bc at hcell
                clear hx hx1 hx2 hx3 hx4 hx' hout
                by_cases hd : d = 1
                · rw [if_pos (by omega)] at hR
                  have hdB : ((d : Int) - 1 == 0) = true := by rw [hd]; rfl
                  have HR2 : Hid (R = (i + 1, m)) := hR
                  clear hR hd
                  go_wp2
                  exact bodyPost_ret (v := .tuple #[.int .i64 ((i + 1 : Nat) : Int), .int .i64 m]) (by simp [results, Tryd.results21, go_sem]) rfl ⟨ret_scan HR2.out, Below.refl _ _⟩
                · rw [if_neg (by omega)] at hR
                  have hdB : ((d : Int) - 1 == 0) = false := beq_eq_false_iff_ne.2 (by omega)
                  have HS2 : Hid (ScI l n (i + 1) (d - 1) m R) := .inl ⟨by omega, hR⟩
                  clear hR hd
                  go_wp2
                  go_round
                  case rel => exact ⟨i + 1, d - 1, m, by omega, by go_num, by go_num, by go_num, by omega, by omega, by omega, by omega, HS2⟩
                  case measure => simp [intOf]; omega
              · obtain ⟨x, hxx⟩ : ∃ x, x = l.getD i 0 := ⟨_, rfl⟩
                have hR := hout x hxx (by rw [hxx]; exact hx)
                rw [← hxx] at hx hx1 hx2 hx3 hx4 hcell
                have hop : isOp x = false := by unfold isOp; simp [hx1, hx2]
                have hcl : isCl x = false := by unfold isCl; simp [hx3, hx4]
                rw [hop, hcl, if_neg (by simp), if_neg (by simp)] at hR
                unfold bc at hcell
                have e0 : ((x.toNat : Int) == 34) = false := u8_lit x 34 (by decide) hx
                have e1 : ((x.toNat : Int) == 91) = false := u8_lit x 91 (by decide) hx1
                have e2 : ((x.toNat : Int) == 123) = false := u8_lit x 123 (by decide) hx2
                have e3 : ((x.toNat : Int) == 93) = false := u8_lit x 93 (by decide) hx3
                have e4 : ((x.toNat : Int) == 125) = false := u8_lit x 125 (by decide) hx4
                clear hx hx1 hx2 hx3 hx4 hop hcl hout hxx
                by_cases hd : d = 0
                · subst hd
                  cases hsp : isSp x
                  · rw [hsp, if_pos ⟨rfl, rfl⟩] at hR
                    have hfz : fz (l.drop i) = if ixd (l.drop i) < n - i then (ixd (l.drop i) : Int) else -1 := by unfold fz; rw [List.length_drop, HL.out]
                    have hixl := ixd_le (l.drop i)
                    rw [List.length_drop, HL.out] at hixl
                    have hany := any29 b (off + i) (n - i) (cap - i) (l.drop i) mx w hbl (fun j hj => by
                      rw [Nat.add_assoc, HCE.out (i + j) (by omega)]
                      simp [List.getD_eq_getElem?_getD]) (by rw [List.length_drop, HL.out]) (by omega) (by omega) (by omega) HM.out HT.out
                    rw [hfz] at hany
                    obtain ⟨K, HK⟩ : ∃ K, Hid (K = ixd (l.drop i)) := ⟨_, rfl⟩
                    rw [← HK.out] at hR hixl hany
                    have HR2 : Hid (R = (i + K, 0)) := hR
                    clear hR hfz HK
                    by_cases hK : K < n - i
                    · rw [if_pos hK] at hany
                      have HANY : Hid (Calls Tryd.prog 29 #[.slice (some ⟨b, off + i, none⟩) (n - i) (cap - i), .string ⟨CH.toArray⟩] w fun e w' => e = .returned (.int .i64 K) ∧ Below w.heap.size w w') := hany
                      clear hany
                      go_wp2_with fail
                      refine (space28 x w).mono ?_
                      rintro en w1 ⟨rfl, rfl⟩
                      rw [hsp]
                      clear hsp
                      go_wp2_with fail
                      refine Calls.mono HANY.out ?_
                      rintro en w2 ⟨rfl, hb2⟩
                      go_wp2
                      exact bodyPost_ret (v := .tuple #[.int .i64 ((i + K : Nat) : Int), .int .i64 0]) (by simp [results, Tryd.results21, go_sem]) rfl ⟨ret_scan HR2.out, hb2⟩
                    · rw [if_neg hK] at hany
                      have HANY : Hid (Calls Tryd.prog 29 #[.slice (some ⟨b, off + i, none⟩) (n - i) (cap - i), .string ⟨CH.toArray⟩] w fun e w' => e = .returned (.int .i64 (-1)) ∧ Below w.heap.size w w') := hany
                      clear hany
                      have HR3 : Hid (R = (n, 0)) := by rw [HR2.out, show i + K = n from by omega]; exact rfl
                      go_wp2_with fail
                      refine (space28 x w).mono ?_
                      rintro en w1 ⟨rfl, rfl⟩
                      rw [hsp]
                      clear hsp
                      go_wp2_with fail
                      refine Calls.mono HANY.out ?_
                      rintro en w2 ⟨rfl, hb2⟩
                      go_wp2
                      exact bodyPost_ret (v := .tuple #[.int .i64 (n : Int), .int .i64 0]) (by simp [results, Tryd.results21, go_sem]) rfl ⟨ret_scan HR3.out, hb2⟩
                  · rw [hsp, if_neg (by simp)] at hR
                    have HS2 : Hid (ScI l n (i + 1) 0 m R) := .inl ⟨by omega, hR⟩
                    clear hR
                    go_wp2_with fail
                    refine (space28 x w).mono ?_
                    rintro en w1 ⟨rfl, rfl⟩
                    rw [hsp]
                    clear hsp
                    go_wp2
                    go_round
                    case rel => exact ⟨i + 1, 0, m, by omega, by go_num, rfl, rfl, by omega, by omega, by omega, by omega, HS2⟩
                    case measure => simp [intOf]; omega
                · rw [if_neg (fun h => hd h.1)] at hR
                  have hdB : ((d : Int) == 0) = false := beq_eq_false_iff_ne.2 hd
                  have HS2 : Hid (ScI l n (i + 1) d m R) := .inl ⟨by omega, hR⟩
                  clear hR hd
                  go_wp2
                  go_round
                  case rel => exact ⟨i + 1, d, m, by omega, by go_num, rfl, rfl, by omega, by omega, by omega, by omega, HS2⟩
                  case measure => simp [intOf]; omega
    · have HR2 : Hid (R = (n, m)) := by
        rcases HS.out with ⟨h1, h2⟩ | ⟨_, h2⟩
        · obtain rfl : i = n := by omega
          rw [h2, List.drop_eq_nil_of_le (by rw [HL.out]; omega), auto_nil, if_pos rfl]; exact rfl
        · exact h2
      go_wp2
      exact bodyPost_ret (v := .tuple #[.int .i64 (n : Int), .int .i64 m]) (by simp [results, Tryd.results21, go_sem]) rfl ⟨ret_scan HR2.out, Below.refl _ _⟩
end Go.Proofs.Qxb6602401aDoor
