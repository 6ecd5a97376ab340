import Derived.Test.Qxb6602401aDoorPl7
namespace Go.Proofs.Qxb6602401aDoor
open Go.RowKit

theorem pos_of_one (a : Nat) (h : 1 ≤ a) : ¬ a = 0 := by omega

set_option maxHeartbeats 8000000 in
set_option maxRecDepth 100000 in
theorem law6 (ao : Option Addr) (n cap : Nat) (vs : List (List UInt8)) (pad : List UInt8) (mx : Int) (w : World) (hrow : SRow w ao n vs) (hn : n ≤ 9223372036854775807) (hv : ∀ i, i < n → (vs.getD i []).length ≤ 9223372036854775807)
    (h1 : pad.length ≤ 9223372036854775807) (hm : w.cell? ⟨0, 0, none⟩ = some (.int .i64 mx)) (hT : Lib.Utf8Tabs 1 2 w) :
    Calls Tryd.prog 6 #[.slice ao n cap, .string ⟨pad.toArray⟩] w fun e w' => e = .returned (.bool true) ∧ Below w.heap.size w w' := by
  have HV : Hid (∀ i, i < n → (vs.getD i []).length ≤ 9223372036854775807) := hv
  have HRW : Hid (SRow w ao n vs) := hrow
  have HL : Hid (vs.length = n) := hrow.1
  have HM : Hid (w.cell? ⟨0, 0, none⟩ = some (.int .i64 mx)) := hm
  have HT : Hid (Lib.Utf8Tabs 1 2 w) := hT
  have h0 : 0 < w.heap.size := pos_of_cell hm
  clear hv hrow hm hT
  by_cases hb : n + lens vs + pad.length ≤ 1048576
  · have hn2 : n ≤ 1048576 := by omega
    have hp2 : pad.length ≤ 1048576 := by omega
    have HV2 : Hid (∀ i, i < n → (vs.getD i []).length ≤ 1048576) := by
      intro i hi
      have := len_mem vs i (by rw [HL.out]; exact hi)
      omega
    go_enter Tryd.func6, Tryd.ntmps6
    go_wp2_with fail
    refine (bytes14 ao n cap vs pad w HRW.out hn HV.out h1).mono ?_
    rintro en0 w1 ⟨rfl, rfl⟩
    rw [decide_eq_true hb]
    clear hb h1 hn HV
    by_cases h16 : n ≤ 65536
    · go_upto_block 0 with fail
      simp only [decide_eq_false (by omega : ¬ (65536 : Int) < (n : Int)), decide_eq_false (by omega : ¬ (1048576 : Int) < (pad.length : Int)), Bool.or_self]
      go_cut [5, 6, 7] from 47 to 86 (fun v5 v6 _v7 wx => ∃ s L : Nat, v5 = .int .i64 s ∧ v6 = .int .i64 L ∧ s ≤ 4000000 ∧ L ≤ 4000000 ∧ Hid (s = pad.length + 16 * n + lens vs ∧ L = (pre pad vs n).length + pad.length) ∧ w1 = wx)
      case first =>
        as_aux_lemma =>
          go_wp2_with fail
          go_loop [5, 6, 7] (fun v5 v6 v7 => ∃ k s L : Nat, k ≤ n ∧ v7 = .int .i64 k ∧ v5 = .int .i64 s ∧ v6 = .int .i64 L ∧ s ≤ 4000000 ∧ L ≤ 4000000 ∧ Hid (s = pad.length + 16 * n + lens (vs.take k) ∧ L = (pre pad vs k).length + pad.length)) (fun _ _ v7 => n - (intOf v7).toNat)
          case atStart => exact ⟨0, pad.length + 16 * n, 2 * pad.length, Nat.zero_le _, rfl, by go_num, by go_num, by omega, by omega, by simp [lens, pre, Hid]; omega⟩
          case round =>
            obtain ⟨k, s, L, hk, rfl, rfl, rfl, hs, hL, HS⟩ := hrel
            by_cases hlt : k < n
            · obtain ⟨b, off, hao, hcell⟩ := SRow.at HRW.out k hlt
              subst hao
              have hx1 := HV2.out k hlt
              have hsuc := lens_succ vs k (by rw [HL.out]; exact hlt)
              have hps := pre_succ_len pad vs k
              obtain ⟨x, hx⟩ : ∃ x, x = vs.getD k [] := ⟨_, rfl⟩
              rw [← hx] at hcell hx1 hsuc hps
              unfold sc at hcell
              clear hx
              by_cases hk0 : k = 0
              · subst hk0
                rw [if_pos rfl] at hps
                rw [Nat.add_zero] at hcell
                by_cases c1 : s + x.length ≤ 1048576 ∧ L + x.length ≤ 1048576
                · obtain ⟨c1, c2⟩ := c1
                  have HS2 : Hid (s + x.length = pad.length + 16 * n + lens (vs.take (0 + 1)) ∧ L + x.length = (pre pad vs (0 + 1)).length + pad.length) := by
                    obtain ⟨q1, q2⟩ := HS.out
                    exact ⟨by omega, by omega⟩
                  clear hsuc hps HS
                  go_wp2
                  go_round
                  case rel => exact ⟨0 + 1, s + x.length, L + x.length, by omega, by go_num, by go_num, by go_num, by omega, by omega, HS2⟩
                  case measure => simp [intOf]; omega
                · clear hsuc hps HS
                  by_cases c2 : s + x.length ≤ 1048576
                  · have c3 : ¬ L + x.length ≤ 1048576 := fun h => c1 ⟨c2, h⟩
                    clear c1
                    go_wp2
                    go_ret
                    exact ⟨rfl, Below.refl _ _⟩
                  · clear c1
                    go_wp2
                    go_ret
                    exact ⟨rfl, Below.refl _ _⟩
              · rw [if_neg hk0] at hps
                have hk1 : 1 ≤ k := by omega
                by_cases c1 : s + x.length ≤ 1048576 ∧ L + x.length + (2 * pad.length + 1) ≤ 1048576
                · obtain ⟨c1, c2⟩ := c1
                  have HS2 : Hid (s + x.length = pad.length + 16 * n + lens (vs.take (k + 1)) ∧ L + x.length + (2 * pad.length + 1) = (pre pad vs (k + 1)).length + pad.length) := by
                    obtain ⟨q1, q2⟩ := HS.out
                    exact ⟨by omega, by omega⟩
                  clear hsuc hps HS hk0
                  go_wp2
                  go_round
                  case rel => exact ⟨k + 1, s + x.length, L + x.length + (2 * pad.length + 1), by omega, by go_num, by go_num, by go_num, by omega, by omega, HS2⟩
                  case measure => simp [intOf]; omega
                · clear hsuc hps HS hk0
                  by_cases c2 : s + x.length ≤ 1048576
                  · have c3 : ¬ L + x.length + (2 * pad.length + 1) ≤ 1048576 := fun h => c1 ⟨c2, h⟩
                    clear c1
                    go_wp2
                    go_ret
                    exact ⟨rfl, Below.refl _ _⟩
                  · clear c1
                    go_wp2
                    go_ret
                    exact ⟨rfl, Below.refl _ _⟩
            · obtain rfl : k = n := by omega
              have HS2 : Hid (s = pad.length + 16 * k + lens vs ∧ L = (pre pad vs k).length + pad.length) := by
                have h := HS.out
                rw [List.take_of_length_le (by rw [HL.out]; exact Nat.le_refl _)] at h
                exact h
              go_wp2
              go_meet
              case rel => exact ⟨s, L, rfl, rfl, hs, hL, HS2, rfl⟩
      case rest =>
        obtain ⟨s, L, rfl, rfl, hs, hL, HSL, rfl⟩ := hcut
        rename World => w1
        by_cases c1 : s ≤ 1048576
        · by_cases c2 : L ≤ 1048576
          · go_upto_block 2 with fail
            simp only [decide_eq_false (by omega : ¬ (1048576 : Int) < (s : Int)), decide_eq_false (by omega : ¬ (1048576 : Int) < (L : Int)), Bool.or_self]
            go_cut [8] from 93 to 103 (fun _v8 wx => Hid (∀ c ∈ pad, isSp c = true) ∧ w1 = wx)
            case first =>
              as_aux_lemma =>
                go_wp2_with fail
                go_loop [8] (fun v8 => ∃ k : Nat, k ≤ pad.length ∧ v8 = .int .i64 k ∧ Hid (∀ c ∈ pad.take k, isSp c = true)) (fun v8 => pad.length - (intOf v8).toNat)
                case atStart => exact ⟨0, Nat.zero_le _, rfl, fun c hc => by simp at hc⟩
                case round =>
                  obtain ⟨k, hk, rfl, HP⟩ := hrel
                  by_cases hlt : k < pad.length
                  · have hix := ix_str pad k hlt
                    have htk : pad.take (k + 1) = pad.take k ++ [pad.getD k 0] := by rw [List.take_succ_eq_append_getElem hlt]; simp [hlt]
                    obtain ⟨c, hc⟩ : ∃ c, c = pad.getD k 0 := ⟨_, rfl⟩
                    rw [← hc] at hix htk
                    clear hc
                    cases hsp : isSp c
                    · go_wp2_with fail
                      refine (space15 c _).mono ?_
                      rintro en1 w2 ⟨rfl, rfl⟩
                      rw [hsp]
                      go_wp2
                      go_ret
                      exact ⟨rfl, Below.refl _ _⟩
                    · have HP2 : Hid (∀ d ∈ pad.take (k + 1), isSp d = true) := by
                        intro d hd
                        rw [htk] at hd
                        rcases List.mem_append.1 hd with h | h
                        · exact HP.out d h
                        · simp at h; subst h; exact hsp
                      clear htk HP
                      go_wp2_with fail
                      refine (space15 c _).mono ?_
                      rintro en1 w2 ⟨rfl, rfl⟩
                      rw [hsp]
                      go_wp2
                      go_round
                      case rel => exact ⟨k + 1, hlt, by go_num, HP2⟩
                      case measure => simp [intOf]; omega
                  · obtain rfl : k = pad.length := by omega
                    rw [List.take_of_length_le (Nat.le_refl _)] at HP
                    go_wp2
                    go_meet
                    case rel => exact ⟨HP, rfl⟩
            case rest =>
              obtain ⟨HPad, rfl⟩ := hcut
              rename World => w1
              have HB : Hid (∀ k, k < n → (vs.getD k []).length + 1 ≤ 1048576) := by
                intro k hk
                have h1 := len_mem vs k (by rw [HL.out]; exact hk)
                have h2 := HSL.out.1
                omega
              go_upto_block 4 with fail
              go_cut [9] from 104 to 115 (fun _v9 wx => Hid (∀ k, k < n → Whole (vs.getD k [])) ∧ Below w1.heap.size w1 wx)
              case first =>
                as_aux_lemma =>
                  go_wp2_with fail
                  go_loopw [9] (fun v9 wr => ∃ k : Nat, k ≤ n ∧ v9 = .int .i64 k ∧ Hid (∀ j, j < k → Whole (vs.getD j [])) ∧ Below w1.heap.size w1 wr) (fun v9 _ => n - (intOf v9).toNat)
                  case atStart => exact ⟨0, Nat.zero_le _, rfl, fun j h => absurd h (Nat.not_lt_zero _), Below.refl _ _⟩
                  case round =>
                    obtain ⟨k, hk, rfl, HW, hbw⟩ := hrel
                    by_cases hlt : k < n
                    · obtain ⟨b, off, hao, hcell⟩ := SRow.at (SRow.later HRW.out hbw) k hlt
                      subst hao
                      have hxl := HB.out k hlt
                      obtain ⟨x, Hx⟩ : ∃ x, Hid (x = vs.getD k []) := ⟨_, rfl⟩
                      rw [← Hx.out] at hcell hxl
                      unfold sc at hcell
                      have HWH : Hid (Calls Tryd.prog 16 #[.string ⟨x.toArray⟩] wr fun e w' => ∃ r, e = .returned (.bool r) ∧ (r = true → Whole x) ∧ Below wr.heap.size wr w') := whole16 x mx wr hxl ((hbw.cell (p := ⟨0, 0, none⟩) h0).trans HM.out) (Utf8Tabs_below HT.out hbw)
                      go_wp2_with fail
                      refine Calls.mono HWH.out ?_
                      rintro en1 w2 ⟨r, rfl, hr, hb2⟩
                      have hb2' := hbw.trans (hb2.mono hbw.size)
                      have Hr : Hid (r = true → Whole x) := hr
                      clear HWH hbw hb2 hcell hr
                      cases r
                      · go_wp2
                        go_ret
                        exact ⟨rfl, hb2'⟩
                      · have HW2 : Hid (∀ j, j < k + 1 → Whole (vs.getD j [])) := by
                          intro j hj
                          by_cases e : j = k
                          · subst e; rw [← Hx.out]; exact Hr.out rfl
                          · exact HW.out j (by omega)
                        clear Hx Hr HW
                        go_wp2
                        go_roundw
                        case rel => exact ⟨k + 1, hlt, by go_num, HW2, hb2'⟩
                        case measure => simp [intOf]; omega
                    · obtain rfl : k = n := by omega
                      go_wp2
                      go_meet
                      case rel => exact ⟨HW, hbw⟩
              case rest =>
                obtain ⟨HW, hb2⟩ := hcut
                rename World => w2
                have hmk := run_make_row' (P := Tryd.prog) 22 5 (.int .u8 0) 1 Tryd.underlying22 Tryd.info5 rfl .i64 .i64 L (by omega) (by omega)
                go_wp2_with fail
                refine (clone17 ao n cap vs w2 (SRow.later HRW.out hb2) hn2).mono ?_
                rintro en2 w3 ⟨ao', cap', rfl, hrow3, hb3⟩
                have HR3 : Hid (SRow w3 ao' n vs) := hrow3
                have hb3' := hb2.trans (hb3.mono hb2.size)
                clear hrow3 hb2 hb3 HRW
                go_wp2_with fail
                have hvb := vbuf_made w3 (.int .u8 0) L 5
                have hbel : Below w3.heap.size w3 (w3.alloc (.cells (madeCells #[Value.int .u8 0] L) 5)) := (Below.refl _ _).alloc (Nat.le_refl _) _
                rw [LayB_nil] at hvb
                obtain ⟨w4, hw4⟩ : ∃ w4, w4 = w3.alloc (.cells (madeCells #[Value.int .u8 0] L) 5) := ⟨_, rfl⟩
                rw [← hw4] at hvb hbel ⊢
                clear hw4
                have hLp : pad.length ≤ L := by have := HSL.out.2; omega
                refine (put18 w3.heap.size L w3.heap.size [] pad w4 hvb (Nat.le_refl _) c2 (by simpa using hLp)).mono ?_
                rintro en3 w5 ⟨rfl, hv5, hb5⟩
                have hb5' : Below w3.heap.size w3 w5 := hbel.trans hb5
                have HV5 : Hid (VBuf w3.heap.size (LayB (pre pad vs 0) L) w5) := hv5
                rw [show ((([] : List UInt8).length + pad.length : Nat) : Int) = ((pre pad vs 0).length : Int) from by simp [pre]]
                clear hvb hbel hv5 hb5
                have HPL : Hid (∀ k, k ≤ n → (pre pad vs k).length + pad.length ≤ L) := by
                  have hmono : ∀ d k, k + d = n → (pre pad vs k).length ≤ (pre pad vs n).length := by
                    intro d
                    induction d with
                    | zero => intro k h; rw [show k = n from by omega]; exact Nat.le_refl _
                    | succ d ih =>
                      intro k h
                      have h1 := ih (k + 1) (by omega)
                      have h2 := pre_succ_len pad vs k
                      omega
                  intro k hk
                  have h1 := hmono (n - k) k (by omega)
                  have h2 := HSL.out.2
                  omega
                go_upto_block 6 with fail
                go_cut [11, 12] from 123 to 150 (fun v11 _v12 wx => v11 = .int .i64 (pre pad vs n).length ∧ Hid (VBuf w3.heap.size (LayB (pre pad vs n) L) wx) ∧ Below w3.heap.size w3 wx)
                case first =>
                  as_aux_lemma =>
                    go_wp2_with fail
                    go_loopw [11, 12] (fun v11 v12 wr => ∃ k : Nat, k ≤ n ∧ v12 = .int .i64 k ∧ v11 = .int .i64 (pre pad vs k).length ∧ Hid (VBuf w3.heap.size (LayB (pre pad vs k) L) wr) ∧ Below w3.heap.size w3 wr) (fun _ v12 _ => n - (intOf v12).toNat)
                    case atStart => exact ⟨0, Nat.zero_le _, rfl, rfl, HV5, hb5'⟩
                    case round =>
                      clear HV5 hb5'
                      obtain ⟨k, hk, rfl, rfl, HV, hbw⟩ := hrel
                      by_cases hlt : k < n
                      · obtain ⟨b, off, hao, hcell⟩ := SRow.at (SRow.later HR3.out hbw) k hlt
                        subst hao
                        have hps := pre_succ_len pad vs k
                        have hpm := HPL.out (k + 1) (by omega)
                        have hpe : pre pad vs (k + 1) = pre pad vs k ++ (sepK pad k ++ vs.getD k []) := rfl
                        obtain ⟨x, Hx⟩ : ∃ x, Hid (x = vs.getD k []) := ⟨_, rfl⟩
                        obtain ⟨P, HP⟩ : ∃ P, Hid (P = pre pad vs k) := ⟨_, rfl⟩
                        rw [← Hx.out] at hcell hps hpe
                        rw [← HP.out] at hps hpe HV ⊢
                        rw [hps] at hpm
                        unfold sc at hcell
                        by_cases hk0 : k = 0
                        · subst hk0
                          rw [if_pos rfl] at hpm
                          rw [Nat.add_zero] at hcell
                          have hpe2 : pre pad vs (0 + 1) = P ++ x := by rw [hpe]; simp [sepK]
                          have HPT : Hid (Calls Tryd.prog 18 #[.slice (some ⟨w3.heap.size, 0, none⟩) L L, .int .i64 P.length, .string ⟨x.toArray⟩] wr fun e w' => e = .returned (.int .i64 ((P.length + x.length : Nat) : Int)) ∧ VBuf w3.heap.size (LayB (P ++ x) L) w' ∧ Below w3.heap.size wr w') := put18 w3.heap.size L w3.heap.size P x wr HV.out (Nat.le_refl _) c2 (by omega)
                          have HPE : Hid (pre pad vs (0 + 1) = P ++ x) := hpe2
                          have HB1 : Hid (Below w3.heap.size w3 wr) := hbw
                          clear hps hpe hpe2 HV hbw Hx HP
                          go_wp2_with fail
                          refine Calls.mono HPT.out ?_
                          rintro en4 w6 ⟨rfl, hv6, hb6⟩
                          have hb7 := HB1.out.trans hb6
                          rw [← HPE.out] at hv6
                          have HV6 : Hid (VBuf w3.heap.size (LayB (pre pad vs (0 + 1)) L) w6) := hv6
                          have HPE2 : Hid (((P.length + x.length : Nat) : Int) = ((pre pad vs (0 + 1)).length : Int)) := by rw [HPE.out]; simp [Hid]
                          rw [HPE2.out]
                          clear hv6 hb6 HPT hcell
                          go_wp2
                          go_roundw
                          case rel => exact ⟨0 + 1, by omega, by go_num, rfl, HV6, hb7⟩
                          case measure => simp [intOf]; omega
                        · rw [if_neg hk0] at hpm
                          obtain ⟨P1, HP1, HL1, hl1a, hl1b⟩ : ∃ P1 : List UInt8, Hid (P1 = P ++ pad) ∧ Hid (P1.length = P.length + pad.length) ∧ P.length + pad.length ≤ P1.length ∧ P1.length ≤ P.length + pad.length := ⟨_, rfl, by simp [Hid], by simp, by simp⟩
                          obtain ⟨P2, HP2, hl2a, hl2b⟩ : ∃ P2 : List UInt8, Hid (P2 = P1 ++ [(44 : UInt8)]) ∧ P1.length + 1 ≤ P2.length ∧ P2.length ≤ P1.length + 1 := ⟨_, rfl, by simp, by simp⟩
                          obtain ⟨P3, HP3, HL3, hl3a, hl3b⟩ : ∃ P3 : List UInt8, Hid (P3 = P2 ++ pad) ∧ Hid (P3.length = P2.length + pad.length) ∧ P2.length + pad.length ≤ P3.length ∧ P3.length ≤ P2.length + pad.length := ⟨_, rfl, by simp [Hid], by simp, by simp⟩
                          have HPE : Hid (pre pad vs (k + 1) = P3 ++ x) := by
                            rw [hpe]
                            unfold sepK
                            rw [if_neg hk0, HP3.out, HP2.out, HP1.out]
                            simp [Hid]
                          have hk1 : 1 ≤ k := by omega
                          have HB1 : Hid (Below w3.heap.size w3 wr) := hbw
                          have HPT1 : Hid (Calls Tryd.prog 18 #[.slice (some ⟨w3.heap.size, 0, none⟩) L L, .int .i64 P.length, .string ⟨pad.toArray⟩] wr fun e w' => e = .returned (.int .i64 ((P.length + pad.length : Nat) : Int)) ∧ VBuf w3.heap.size (LayB (P ++ pad) L) w' ∧ Below w3.heap.size wr w') := put18 w3.heap.size L w3.heap.size P pad wr HV.out (Nat.le_refl _) c2 (by omega)
                          have HPT2 : Hid (∀ w7, VBuf w3.heap.size (LayB P2 L) w7 → Calls Tryd.prog 18 #[.slice (some ⟨w3.heap.size, 0, none⟩) L L, .int .i64 ((P1.length : Int) + 1), .string ⟨pad.toArray⟩] w7 fun e w' => e = .returned (.int .i64 (P3.length : Int)) ∧ VBuf w3.heap.size (LayB P3 L) w' ∧ Below w3.heap.size w7 w') := by
                            intro w7 h
                            have h2 := put18 w3.heap.size L w3.heap.size P2 pad w7 h (Nat.le_refl _) c2 (by omega)
                            rw [← HP3.out, ← HL3.out, show (P2.length : Int) = (P1.length : Int) + 1 from by omega] at h2
                            exact h2
                          have HPT3 : Hid (∀ w8, VBuf w3.heap.size (LayB P3 L) w8 → Calls Tryd.prog 18 #[.slice (some ⟨w3.heap.size, 0, none⟩) L L, .int .i64 (P3.length : Int), .string ⟨x.toArray⟩] w8 fun e w' => e = .returned (.int .i64 ((pre pad vs (k + 1)).length : Int)) ∧ VBuf w3.heap.size (LayB (pre pad vs (k + 1)) L) w' ∧ Below w3.heap.size w8 w') := by
                            intro w8 h
                            have h2 := put18 w3.heap.size L w3.heap.size P3 x w8 h (Nat.le_refl _) c2 (by omega)
                            rw [← HPE.out, show P3.length + x.length = (pre pad vs (k + 1)).length from by rw [HPE.out, List.length_append]] at h2
                            exact h2
                          clear hps hpe HV hbw HP hk0 hcell
                          go_wp2_with fail
                          refine Calls.mono HPT1.out ?_
                          rintro en4 w6 ⟨rfl, hv6, hb6⟩
                          rw [← HP1.out] at hv6
                          rw [← HL1.out]
                          have hkl : P1.length < (LayB P1 L).length := by rw [LayB_len _ _ (by omega)]; omega
                          have hold := (hv6.2 _ hkl).1
                          have hfro := (hv6.2 _ hkl).2
                          rw [List.getElem?_eq_getElem hkl] at hold
                          have hset := VBuf.set hv6 _ hkl (bc 44)
                          rw [LayB_put P1 L 44 (by omega), ← HP2.out] at hset
                          have hbs := (HB1.out.trans hb6).setCell (p := ⟨w3.heap.size, P1.length, none⟩) (Nat.le_refl _) (bc 44)
                          have HSET : Hid (VBuf w3.heap.size (LayB P2 L) (w6.setCell ⟨w3.heap.size, P1.length, none⟩ (.int .u8 44))) := hset
                          have HBS : Hid (Below w3.heap.size w3 (w6.setCell ⟨w3.heap.size, P1.length, none⟩ (.int .u8 44))) := hbs
                          clear hset hbs hv6 hb6 HPT1 HB1 HP1 HL1 HP2 HP3 HL3
                          go_wp2_with fail
                          refine Calls.mono (HPT2.out _ HSET.out) ?_
                          rintro en5 w8 ⟨rfl, hv8, hb8⟩
                          have hb8' := HBS.out.trans hb8
                          obtain ⟨b2, off2, hao2, hcell2⟩ := SRow.at (SRow.later HR3.out hb8') k hlt
                          cases hao2
                          rw [← Hx.out] at hcell2
                          unfold sc at hcell2
                          have HPT4 := HPT3.out w8 hv8
                          have HPT5 : Hid (Calls Tryd.prog 18 #[.slice (some ⟨w3.heap.size, 0, none⟩) L L, .int .i64 (P3.length : Int), .string ⟨x.toArray⟩] w8 fun e w' => e = .returned (.int .i64 ((pre pad vs (k + 1)).length : Int)) ∧ VBuf w3.heap.size (LayB (pre pad vs (k + 1)) L) w' ∧ Below w3.heap.size w8 w') := HPT4
                          have HB8 : Hid (Below w3.heap.size w3 w8) := hb8'
                          clear HPT4 HPT3 HPT2 HSET HBS hold hfro hkl hb8 hb8' hv8 HPE Hx
                          go_wp2_with fail
                          refine Calls.mono HPT5.out ?_
                          rintro en6 w9 ⟨rfl, hv9, hb9⟩
                          have hb10 := HB8.out.trans hb9
                          have HV9 : Hid (VBuf w3.heap.size (LayB (pre pad vs (k + 1)) L) w9) := hv9
                          clear hv9 hb9 HB8 HPT5 hcell2
                          go_wp2
                          go_roundw
                          case rel => exact ⟨k + 1, by omega, by go_num, rfl, HV9, hb10⟩
                          case measure => simp [intOf]; omega
                      · obtain rfl : k = n := by omega
                        go_wp2
                        go_meet
                        case rel => exact ⟨rfl, HV, hbw⟩
                case rest =>
                  clear HV5 hb5'
                  obtain ⟨rfl, HV6, hb6⟩ := hcut
                  rename World => w6
                  obtain ⟨D, HD, HDL⟩ : ∃ D, Hid (D = dat pad vs) ∧ Hid (D.length = L) := ⟨_, rfl, by rw [dat_len, HL.out]; exact HSL.out.2.symm⟩
                  obtain ⟨q, Hq⟩ : ∃ q, Hid (q = (pre pad vs n).length) := ⟨_, rfl⟩
                  have HPT : Hid (Calls Tryd.prog 18 #[.slice (some ⟨w3.heap.size, 0, none⟩) L L, .int .i64 q, .string ⟨pad.toArray⟩] w6 fun e w' => e = .returned (.int .i64 (L : Int)) ∧ VBuf w3.heap.size (Bs D) w' ∧ Below w3.heap.size w6 w') := by
                    have h := put18 w3.heap.size L w3.heap.size (pre pad vs n) pad w6 HV6.out (Nat.le_refl _) c2 (HPL.out n (Nat.le_refl _))
                    rw [show pre pad vs n ++ pad = D from by rw [HD.out]; unfold dat; rw [HL.out], show LayB D L = Bs D from by rw [← HDL.out]; exact LayB_all D, show (pre pad vs n).length + pad.length = L from HSL.out.2.symm, ← Hq.out] at h
                    exact h
                  rw [← Hq.out]
                  clear HV6 Hq
                  go_wp2_with fail
                  refine Calls.mono HPT.out ?_
                  rintro en5 w7 ⟨rfl, hv7, hb7⟩
                  have hb7' := hb6.trans hb7
                  have hrow7 := vbuf_row hv7
                  rw [HDL.out] at hrow7
                  have HB7 : Hid (BRow w7 (some ⟨w3.heap.size, 0, none⟩) L D) := hrow7
                  have hbw7 : Below w1.heap.size w1 w7 := hb3'.trans (hb7'.mono hb3'.size)
                  have HSC : Hid (Calls Tryd.prog 9 #[.slice (some ⟨w3.heap.size, 0, none⟩) L L] w7 fun e w' => e = .returned (.tuple #[.int .i64 ((auto D 0 0 0 0).1 : Int), .int .i64 (auto D 0 0 0 0).2]) ∧ Below w7.heap.size w7 w') := zzscan9 _ L L D mx w7 hrow7 c2 (Nat.le_refl _) (by omega) ((hbw7.cell (p := ⟨0, 0, none⟩) h0).trans HM.out) (Utf8Tabs_below HT.out hbw7)
                  clear hv7 hb7 hb6 hrow7 HPT
                  by_cases hn0 : n = 0
                  · rw [HD.out, auto_none pad vs HPad.out (by rw [HL.out]; exact hn0), ← HD.out, HDL.out] at HSC
                    subst hn0
                    go_wp2_with fail
                    refine Calls.mono HSC.out ?_
                    rintro en6 w8 ⟨rfl, hb8⟩
                    have hb9 := hbw7.trans (hb8.mono hbw7.size)
                    clear HSC hb8 hbw7
                    go_wp2
                    go_ret
                    exact ⟨rfl, hb9⟩
                  · have hn1 : 1 ≤ n := by omega
                    obtain ⟨x0, Hx0⟩ : ∃ x0, Hid (x0 = vs.getD 0 []) := ⟨_, rfl⟩
                    obtain ⟨d0, Hd0⟩ : ∃ d0, Hid (d0 = (auto x0 0 0 0 0).2) := ⟨_, rfl⟩
                    rw [HD.out, auto_first pad vs HPad.out (by rw [HL.out]; exact hn1) (HW.out 0 hn1), ← Hx0.out, ← Hd0.out] at HSC
                    have hx0 := HB.out 0 hn1
                    rw [← Hx0.out] at hx0
                    clear hn0
                    go_wp2_with fail
                    refine Calls.mono HSC.out ?_
                    rintro en6 w8 ⟨rfl, hb8⟩
                    have hb38 := hb7'.trans (hb8.mono hb7'.size)
                    obtain ⟨b, off, hao, hcell⟩ := SRow.at (SRow.later HR3.out hb38) 0 hn1
                    subst hao
                    rw [← Hx0.out, Nat.add_zero] at hcell
                    unfold sc at hcell
                    have HY : Hid (Calls Tryd.prog 19 #[.string ⟨x0.toArray⟩] w8 fun e w' => e = .returned (.slice (some ⟨w8.heap.size, 0, none⟩) x0.length x0.length) ∧ BRow w' (some ⟨w8.heap.size, 0, none⟩) x0.length x0 ∧ Below w8.heap.size w8 w') := bytes19 x0 w8 (by omega)
                    clear HSC
                    go_wp2_with fail
                    refine Calls.mono HY.out ?_
                    rintro en7 w9 ⟨rfl, hrow9, hb9⟩
                    have hb79 := hb8.trans (hb9.mono hb8.size)
                    have hbw9 : Below w1.heap.size w1 w9 := hbw7.trans (hb79.mono hbw7.size)
                    have HZ : Hid (Calls Tryd.prog 9 #[.slice (some ⟨w8.heap.size, 0, none⟩) x0.length x0.length] w9 fun e w' => e = .returned (.tuple #[.int .i64 ((auto x0 0 0 0 0).1 : Int), .int .i64 (auto x0 0 0 0 0).2]) ∧ Below w9.heap.size w9 w') := zzscan9 _ _ _ x0 mx w9 hrow9 (by omega) (Nat.le_refl _) (by omega) ((hbw9.cell (p := ⟨0, 0, none⟩) h0).trans HM.out) (Utf8Tabs_below HT.out hbw9)
                    obtain ⟨e0, He0⟩ : ∃ e0, Hid (e0 = (auto x0 0 0 0 0).1) := ⟨_, rfl⟩
                    rw [← Hd0.out, ← He0.out] at HZ
                    clear hrow9 HY hcell He0 Hd0
                    go_wp2_with fail
                    refine Calls.mono HZ.out ?_
                    rintro en8 w10 ⟨rfl, hb10⟩
                    have hb710 := hb79.trans (hb10.mono hb79.size)
                    have hb310 := hb7'.trans (hb710.mono hb7'.size)
                    obtain ⟨b2, off2, hao2, hcell2⟩ := SRow.at (SRow.later HR3.out hb310) 0 hn1
                    cases hao2
                    rw [← Hx0.out, Nat.add_zero] at hcell2
                    unfold sc at hcell2
                    clear HZ hb8 hb9 hb79 hbw9 hb10 hb38 Hx0
                    go_upto_block 8 with fail
                    go_wp2_with fail
                    go_loopw [17, 18] (fun v17 v18 wr => ∃ k : Nat, k ≤ n ∧ v18 = .int .i64 k ∧ v17 = .int .i64 (posK pad vs n L k : Nat) ∧ Below w7.heap.size w7 wr) (fun _ v18 _ => n - (intOf v18).toNat)
                    case atStart => exact ⟨0, Nat.zero_le _, rfl, by unfold posK; rw [if_pos (by omega : 0 < n), stK_zero], hb710⟩
                    case round =>
                      clear hb710 hb310 hcell2
                      obtain ⟨k, hk, rfl, rfl, hbk⟩ := hrel
                      by_cases hlt : k < n
                      · have hb3k := hb7'.trans (hbk.mono hb7'.size)
                        obtain ⟨b2, off2, hao2, hcell⟩ := SRow.at (SRow.later HR3.out hb3k) k hlt
                        cases hao2
                        have hkl : k < vs.length := by rw [HL.out]; exact hlt
                        have hxl := HB.out k hlt
                        have hsl := stK_len pad vs k hkl
                        rw [← HD.out, HDL.out] at hsl
                        have hat := auto_at pad vs k HPad.out hkl (HW.out k hlt)
                        have hx1 : 1 ≤ (vs.getD k []).length := by
                          obtain ⟨c, t, hct, _⟩ := HW.out k hlt
                          rw [hct]; simp
                        have hnx := fun wz => nextK w3.heap.size k L n pad vs wz (by rw [← HD.out]; exact HDL.out) HL.out hlt HPad.out HW.out
                        have hsu := stK_succ pad vs k
                        obtain ⟨x, Hx⟩ : ∃ x, Hid (x = vs.getD k []) := ⟨_, rfl⟩
                        obtain ⟨S, HS⟩ : ∃ S, Hid (S = stK pad vs k) := ⟨_, rfl⟩
                        have hpk : posK pad vs n L k = S := by unfold posK; rw [if_pos hlt]; exact HS.out.symm
                        rw [hpk]
                        rw [← Hx.out] at hcell hxl hsl hat hx1 hsu hnx
                        rw [← HS.out] at hsl hat hsu hnx
                        rw [← HD.out] at hat hnx
                        unfold sc at hcell
                        have hS1 : S + x.length ≤ L := by omega
                        obtain ⟨dx, Hdx⟩ : ∃ dx, Hid (dx = (auto x 0 0 0 0).2) := ⟨_, rfl⟩
                        obtain ⟨ex, Hex⟩ : ∃ ex, Hid (ex = (auto x 0 0 0 0).1) := ⟨_, rfl⟩
                        rw [← Hdx.out] at hat
                        have HY : Hid (Calls Tryd.prog 19 #[.string ⟨x.toArray⟩] wr fun e w' => e = .returned (.slice (some ⟨wr.heap.size, 0, none⟩) x.length x.length) ∧ BRow w' (some ⟨wr.heap.size, 0, none⟩) x.length x ∧ Below wr.heap.size wr w') := bytes19 x wr (by omega)
                        have HZ1 : Hid (∀ wz, BRow wz (some ⟨wr.heap.size, 0, none⟩) x.length x → Below w7.heap.size w7 wz → Calls Tryd.prog 9 #[.slice (some ⟨wr.heap.size, 0, none⟩) x.length x.length] wz fun e w' => e = .returned (.tuple #[.int .i64 (ex : Int), .int .i64 dx]) ∧ Below wz.heap.size wz w') := by
                          intro wz hr hb
                          have hbz : Below w1.heap.size w1 wz := hbw7.trans (hb.mono hbw7.size)
                          have h := zzscan9 _ _ _ x mx wz hr (by omega) (Nat.le_refl _) (by omega) ((hbz.cell (p := ⟨0, 0, none⟩) h0).trans HM.out) (Utf8Tabs_below HT.out hbz)
                          rw [← Hdx.out, ← Hex.out] at h
                          exact h
                        have HZ2 : Hid (∀ wz, Below w7.heap.size w7 wz → Calls Tryd.prog 9 #[.slice (some ⟨w3.heap.size, S, none⟩) (L - S) (L - S)] wz fun e w' => e = .returned (.tuple #[.int .i64 (x.length : Int), .int .i64 dx]) ∧ Below wz.heap.size wz w') := by
                          intro wz hb
                          have hbz : Below w1.heap.size w1 wz := hbw7.trans (hb.mono hbw7.size)
                          have h := zzscan9 _ _ (L - S) (D.drop S) mx wz (BRow.tail (BRow.later HB7.out hb) S (by omega)) (by omega) (Nat.le_refl _) (by omega) ((hbz.cell (p := ⟨0, 0, none⟩) h0).trans HM.out) (Utf8Tabs_below HT.out hbz)
                          rw [hat] at h
                          exact h
                        have HN : Hid (∀ wz, Below w7.heap.size w7 wz → Calls Tryd.prog 20 #[.slice (some ⟨w3.heap.size, 0, none⟩) L L, .int .i64 ((S : Int) + (x.length : Int))] wz fun e w' => e = .returned (.int .i64 (posK pad vs n L (k + 1) : Nat)) ∧ w' = wz) := by
                          intro wz hb
                          exact hnx wz (BRow.later HB7.out hb) c2
                        by_cases hk2 : k + 1 < n
                        · have HP1 : Hid (((posK pad vs n L (k + 1) : Nat) : Int) = (S : Int) + (x.length : Int) + 2 * (pad.length : Int) + 1) := by
                            unfold posK
                            rw [if_pos hk2, hsu]
                            simp [Hid]
                          have hle : S + x.length + 2 * pad.length + 1 ≤ L := by
                            have h9 := stK_len pad vs (k + 1) (by rw [HL.out]; exact hk2)
                            rw [← HD.out, HDL.out, hsu] at h9
                            omega
                          rw [HP1.out] at HN
                          clear hat hnx hsu hpk hsl HS Hx Hdx Hex hkl
                          go_wp2_with fail
                          refine Calls.mono HY.out ?_
                          rintro en11 w11 ⟨rfl, hr11, hb11⟩
                          have hb711 := hbk.trans (hb11.mono hbk.size)
                          have HZ3 := HZ1.out w11 hr11 hb711
                          have HZ4 : Hid (Calls Tryd.prog 9 #[.slice (some ⟨wr.heap.size, 0, none⟩) x.length x.length] w11 fun e w' => e = .returned (.tuple #[.int .i64 (ex : Int), .int .i64 dx]) ∧ Below w11.heap.size w11 w') := HZ3
                          clear HZ3 HZ1 HY hb11 hr11
                          go_wp2_with fail
                          refine Calls.mono HZ4.out ?_
                          rintro en12 w12 ⟨rfl, hb12⟩
                          have hb712 := hb711.trans (hb12.mono hb711.size)
                          have HZ5 := HZ2.out w12 hb712
                          have HZ6 : Hid (Calls Tryd.prog 9 #[.slice (some ⟨w3.heap.size, S, none⟩) (L - S) (L - S)] w12 fun e w' => e = .returned (.tuple #[.int .i64 (x.length : Int), .int .i64 dx]) ∧ Below w12.heap.size w12 w') := HZ5
                          clear HZ5 HZ4 HZ2 hb12 hb711
                          go_wp2_with fail
                          refine Calls.mono HZ6.out ?_
                          rintro en13 w13 ⟨rfl, hb13⟩
                          have hb713 := hb712.trans (hb13.mono hb712.size)
                          have HN2 := HN.out w13 hb713
                          have HN3 : Hid (Calls Tryd.prog 20 #[.slice (some ⟨w3.heap.size, 0, none⟩) L L, .int .i64 ((S : Int) + (x.length : Int))] w13 fun e w' => e = .returned (.int .i64 ((S : Int) + (x.length : Int) + 2 * (pad.length : Int) + 1)) ∧ w' = w13) := HN2
                          clear HN2 HN HZ6 hb13 hb712
                          go_wp2_with fail
                          refine Calls.mono HN3.out ?_
                          rintro en14 w14 ⟨rfl, rfl⟩
                          go_wp2
                          go_roundw
                          case rel => exact ⟨k + 1, by omega, by go_num, by rw [HP1.out], hb713⟩
                          case measure => simp [intOf]; omega
                        · have HP1 : Hid (posK pad vs n L (k + 1) = L) := by
                            unfold posK
                            rw [if_neg hk2]
                            rfl
                          rw [HP1.out] at HN
                          clear hat hnx hsu hpk hsl HS Hx Hdx Hex hkl
                          go_wp2_with fail
                          refine Calls.mono HY.out ?_
                          rintro en11 w11 ⟨rfl, hr11, hb11⟩
                          have hb711 := hbk.trans (hb11.mono hbk.size)
                          have HZ3 := HZ1.out w11 hr11 hb711
                          have HZ4 : Hid (Calls Tryd.prog 9 #[.slice (some ⟨wr.heap.size, 0, none⟩) x.length x.length] w11 fun e w' => e = .returned (.tuple #[.int .i64 (ex : Int), .int .i64 dx]) ∧ Below w11.heap.size w11 w') := HZ3
                          clear HZ3 HZ1 HY hb11 hr11
                          go_wp2_with fail
                          refine Calls.mono HZ4.out ?_
                          rintro en12 w12 ⟨rfl, hb12⟩
                          have hb712 := hb711.trans (hb12.mono hb711.size)
                          have HZ5 := HZ2.out w12 hb712
                          have HZ6 : Hid (Calls Tryd.prog 9 #[.slice (some ⟨w3.heap.size, S, none⟩) (L - S) (L - S)] w12 fun e w' => e = .returned (.tuple #[.int .i64 (x.length : Int), .int .i64 dx]) ∧ Below w12.heap.size w12 w') := HZ5
                          clear HZ5 HZ4 HZ2 hb12 hb711
                          go_wp2_with fail
                          refine Calls.mono HZ6.out ?_
                          rintro en13 w13 ⟨rfl, hb13⟩
                          have hb713 := hb712.trans (hb13.mono hb712.size)
                          have HN2 := HN.out w13 hb713
                          have HN3 : Hid (Calls Tryd.prog 20 #[.slice (some ⟨w3.heap.size, 0, none⟩) L L, .int .i64 ((S : Int) + (x.length : Int))] w13 fun e w' => e = .returned (.int .i64 (L : Int)) ∧ w' = w13) := HN2
                          clear HN2 HN HZ6 hb13 hb712
                          go_wp2_with fail
                          refine Calls.mono HN3.out ?_
                          rintro en14 w14 ⟨rfl, rfl⟩
                          go_wp2
                          go_roundw
                          case rel => exact ⟨k + 1, by omega, by go_num, by rw [HP1.out], hb713⟩
                          case measure => simp [intOf]; omega
                      · go_wp2
                        go_ret
                        exact ⟨rfl, hbw7.trans (hbk.mono hbw7.size)⟩
          · go_wp2
            go_ret
            exact ⟨rfl, Below.refl _ _⟩
        · go_wp2
          go_ret
          exact ⟨rfl, Below.refl _ _⟩
    · go_wp2
      go_ret
      exact ⟨rfl, Below.refl _ _⟩
  · go_enter Tryd.func6, Tryd.ntmps6
    go_wp2_with fail
    refine (bytes14 ao n cap vs pad w HRW.out hn HV.out h1).mono ?_
    rintro en0 w1 ⟨rfl, rfl⟩
    rw [decide_eq_false hb]
    go_wp2
    go_ret
    exact ⟨rfl, Below.refl _ _⟩
end Go.Proofs.Qxb6602401aDoor
