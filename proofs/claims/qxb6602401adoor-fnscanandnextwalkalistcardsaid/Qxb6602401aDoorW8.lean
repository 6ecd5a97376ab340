import Derived.Test.Qxb6602401aDoorW7
namespace Go.Proofs.Qxb6602401aDoor
open Go.RowKit

theorem Tryd.info3 : (Tryd.prog.info? 3).map (fun i => (i.zero, i.size, i.bytes)) = some (some (.int .i64 0), 1, 8) := by kernel_rfl

/-- the balances up to k, zeros behind -/
def BH (l : List UInt8) (n k : Nat) : List Value := (List.range (n + 1)).map fun j => if j ≤ k then .int .i64 (bal l j) else .int .i64 0
theorem BH_len (l : List UInt8) (n k : Nat) : (BH l n k).length = n + 1 := by simp [BH]
theorem BH_get (l : List UInt8) (n k j : Nat) (h : j ≤ n) : (BH l n k)[j]? = some (if j ≤ k then .int .i64 (bal l j) else .int .i64 0) := by
  unfold BH
  rw [List.getElem?_map, List.getElem?_range (by omega)]
  rfl
theorem BH_zero (l : List UInt8) (n : Nat) : List.replicate (n + 1) (.int .i64 0) = BH l n 0 := by
  apply List.ext_getElem?
  intro i
  by_cases h : i ≤ n
  · rw [BH_get l n 0 i h, List.getElem?_replicate, if_pos (by omega)]
    by_cases h0 : i ≤ 0
    · obtain rfl : i = 0 := by omega
      rfl
    · rw [if_neg h0]
  · rw [List.getElem?_eq_none (by simp; omega), List.getElem?_eq_none (by rw [BH_len]; omega)]
theorem BH_set (l : List UInt8) (n k : Nat) (h : k < n) : (BH l n k).set (k + 1) (.int .i64 (bal l (k + 1))) = BH l n (k + 1) := by
  apply List.ext_getElem?
  intro i
  by_cases hi : i ≤ n
  · rw [BH_get l n (k + 1) i hi]
    by_cases e : k + 1 = i
    · subst e
      rw [List.getElem?_set_self (by rw [BH_len]; omega), if_pos (Nat.le_refl _)]
    · rw [List.getElem?_set_ne e, BH_get l n k i hi]
      by_cases h2 : i ≤ k
      · rw [if_pos h2, if_pos (by omega)]
      · rw [if_neg h2, if_neg (by omega)]
  · rw [List.getElem?_eq_none (by rw [List.length_set, BH_len]; omega), List.getElem?_eq_none (by rw [BH_len]; omega)]

/-- where the model decides -/
def DP (l : List UInt8) (n D : Nat) : Prop := (D = n ∧ ∀ j, j < n → dec l j = false) ∨ (D < n ∧ dec l D = true ∧ ∀ j, j < D → dec l j = false)

theorem cl_sp (c : UInt8) (h : isCl c = true) : isSp c = false ∧ isOp c = false := by
  unfold isCl at h
  rw [Bool.or_eq_true, beq_iff_eq, beq_iff_eq] at h
  rcases h with rfl | rfl <;> decide
theorem rol_le (l : List UInt8) (k : Nat) : rol l k ≤ 3 := by
  unfold rol rl
  repeat' split
  all_goals omega
theorem dec_cases (l : List UInt8) (k : Nat) (h : dec l k = true) : (rol l k = 1 ∧ bal l k = 0) ∨ (rol l k = 0 ∧ isCl (l.getD k 0) = true ∧ bal l (k + 1) = 0) ∨
    (rol l k = 0 ∧ bal l k = 0 ∧ isSp (l.getD k 0) = false ∧ isOp (l.getD k 0) = false ∧ isCl (l.getD k 0) = false) := by
  unfold dec at h
  simp only [Bool.or_eq_true, Bool.and_eq_true, beq_iff_eq, Bool.not_eq_true'] at h
  rcases h with (⟨h1, h2⟩ | ⟨⟨h1, h2⟩, h3⟩) | ⟨⟨⟨⟨h1, h2⟩, h3⟩, h4⟩, h5⟩
  · exact .inl ⟨h1, h2⟩
  · exact .inr (.inl ⟨h1, h2, h3⟩)
  · exact .inr (.inr ⟨h1, h2, h3, h4, h5⟩)
theorem ret_m {a : Nat} {b : Int} {R : Nat × Int} (h : R = (a, b)) : Ending.returned (.tuple #[.int .i64 (a : Int), .int .i64 b]) = .returned (.tuple #[.int .i64 (R.1 : Int), .int .i64 R.2]) := by rw [h]

set_option maxHeartbeats 4000000 in
set_option maxRecDepth 100000 in
theorem model10 (ao : Option Addr) (n cap : Nat) (l : List UInt8) (w : World) (hrow : BRow w ao n l) (hn : n ≤ 1048576) :
    Calls Tryd.prog 10 #[.slice ao n cap] w fun e w' => e = .returned (.tuple #[.int .i64 ((auto l 0 0 0 0).1 : Int), .int .i64 (auto l 0 0 0 0).2]) ∧ Below w.heap.size w w' := by
  obtain ⟨R, HR⟩ : ∃ R, Hid (R = auto l 0 0 0 0) := ⟨_, rfl⟩
  rw [← HR.out]
  have HL : Hid (l.length = n) := hrow.1
  have HRW : Hid (BRow w ao n l) := hrow
  have hmk := run_make_row' (P := Tryd.prog) 37 3 (.int .i64 0) 8 Tryd.underlying37 Tryd.info3 rfl .i64 .i64 (n + 1) (by omega) (by omega)
  have hmk2 : ∀ w : World, (Instr.makeSlice 37 (.int .i64 ((n : Int) + 1)) (.int .i64 ((n : Int) + 1))).run Tryd.prog w = .ok (.slice (some ⟨w.heap.size, 0, none⟩) (n + 1) (n + 1)) (w.alloc (.cells (madeCells #[.int .i64 0] (n + 1)) 3)) := hmk
  clear hmk
  go_enter Tryd.func10, Tryd.ntmps10
  go_wp2_with fail
  refine (roles22 ao n cap l w hrow hn).mono ?_
  rintro en w1 ⟨rfl, hvR, hb1⟩
  have HR1 : Hid (BRow w1 ao n l) := BRow.later HRW.out hb1
  obtain ⟨bR, HbR⟩ : ∃ bR, Hid (bR = w.heap.size) := ⟨_, rfl⟩
  rw [← HbR.out] at hvR ⊢
  have HVR : Hid (VBuf bR (RH l n n) w1) := hvR
  clear hvR hrow HRW
  go_upto_block 0 with fail
  have hvb := vbuf_made w1 (.int .i64 0) (n + 1) 3
  have hbel : Below w1.heap.size w1 (w1.alloc (.cells (madeCells #[Value.int .i64 0] (n + 1)) 3)) := (Below.refl _ _).alloc (Nat.le_refl _) _
  rw [BH_zero l n] at hvb
  obtain ⟨w2, hw2⟩ : ∃ w2, w2 = w1.alloc (.cells (madeCells #[Value.int .i64 0] (n + 1)) 3) := ⟨_, rfl⟩
  rw [← hw2] at hvb hbel ⊢
  clear hw2
  have HVB : Hid (VBuf w1.heap.size (BH l n 0) w2) := hvb
  clear hvb
  go_cut [7, 8] from 23 to 64 (fun _v7 _v8 wx => Hid (VBuf w1.heap.size (BH l n n) wx) ∧ Below w1.heap.size w1 wx)
  case first =>
    as_aux_lemma =>
      go_wp2_with fail
      go_loopw [7] (fun v7 wr => ∃ (k : Nat), k ≤ n ∧ v7 = .int .i64 k ∧ Hid (VBuf w1.heap.size (BH l n k) wr) ∧ Below w1.heap.size w1 wr) (fun v7 _ => n - (intOf v7).toNat)
      case atStart => exact ⟨0, Nat.zero_le _, rfl, HVB, hbel⟩
      case round =>
        clear HVB hbel
        obtain ⟨k, hk, rfl, HV, hb⟩ := hrel
        by_cases hlt : k < n
        · obtain ⟨b, off, hao, hcell⟩ := BRow.at (BRow.later HR1.out hb) k hlt
          subst hao
          have hkr : k < (RH l n n).length := by rw [RH_len]; exact hlt
          have hrole := (hb.cell (p := ⟨bR, k, none⟩) HVR.out.1).trans (HVR.out.2 k hkr).1
          rw [RH_get l n n k hlt, if_pos hlt] at hrole
          unfold rv at hrole
          have hkb : k < (BH l n k).length := by rw [BH_len]; omega
          have hbcell := (HV.out.2 k hkb).1
          rw [BH_get l n k k (by omega), if_pos (Nat.le_refl _)] at hbcell
          have hkl : k + 1 < (BH l n k).length := by rw [BH_len]; omega
          have hold := (HV.out.2 (k + 1) hkl).1
          have hfro := (HV.out.2 (k + 1) hkl).2
          rw [List.getElem?_eq_getElem hkl] at hold
          have hset := VBuf.set HV.out (k + 1) hkl (.int .i64 (bal l (k + 1)))
          rw [BH_set l n k hlt] at hset
          have hbs := hb.setCell (p := ⟨w1.heap.size, k + 1, none⟩) (Nat.le_refl _) (.int .i64 (bal l (k + 1)))
          have hbb := bal_bd l k
          have hbeq : bal l (k + 1) = bal l k + stp (rol l k) (l.getD k 0) := rfl
          have hrle := rol_le l k
          obtain ⟨B1, HB1⟩ : ∃ B1, Hid (B1 = bal l (k + 1)) := ⟨_, rfl⟩
          obtain ⟨c, hc⟩ : ∃ c, c = l.getD k 0 := ⟨_, rfl⟩
          obtain ⟨r, hr⟩ : ∃ r, r = rol l k := ⟨_, rfl⟩
          obtain ⟨B, hB⟩ : ∃ B, B = bal l k := ⟨_, rfl⟩
          rw [← HB1.out] at hset hbs hbeq
          rw [← hr] at hrole hbeq hrle
          rw [← hc] at hcell hbeq
          rw [← hB] at hbcell hbb hbeq
          have HV2 : Hid (VBuf w1.heap.size (BH l n (k + 1)) (wr.setCell ⟨w1.heap.size, k + 1, none⟩ (.int .i64 B1))) := hset
          have HB2 : Hid (Below w1.heap.size w1 (wr.setCell ⟨w1.heap.size, k + 1, none⟩ (.int .i64 B1))) := hbs
          unfold bc at hcell
          clear hc hr hB HB1 hset hbs HV hb
          by_cases hr0 : r = 0
          · subst hr0
            cases hop : isOp c
            · cases hcl : isCl c
              · have hB1 : B1 = B := by rw [hbeq]; simp [stp, hop, hcl]
                subst hB1
                clear hbeq
                go_wp2_with fail
                refine (open23 c _).mono ?_
                rintro en0 w0 ⟨rfl, rfl⟩
                rw [hop]
                go_wp2_with fail
                refine (close24 c _).mono ?_
                rintro en0 w0 ⟨rfl, rfl⟩
                rw [hcl]
                go_wp2
                go_roundw
                case rel => exact ⟨k + 1, hlt, by go_num, HV2, HB2.out⟩
                case measure => simp [intOf]; omega
              · have hB1 : B1 = B - 1 := by rw [hbeq]; simp [stp, hop, hcl]; omega
                subst hB1
                clear hbeq
                go_wp2_with fail
                refine (open23 c _).mono ?_
                rintro en0 w0 ⟨rfl, rfl⟩
                rw [hop]
                go_wp2_with fail
                refine (close24 c _).mono ?_
                rintro en0 w0 ⟨rfl, rfl⟩
                rw [hcl]
                go_wp2
                go_roundw
                case rel => exact ⟨k + 1, hlt, by go_num, HV2, HB2.out⟩
                case measure => simp [intOf]; omega
            · have hB1 : B1 = B + 1 := by rw [hbeq]; simp [stp, hop]
              subst hB1
              clear hbeq
              go_wp2_with fail
              refine (open23 c _).mono ?_
              rintro en0 w0 ⟨rfl, rfl⟩
              rw [hop]
              go_wp2
              go_roundw
              case rel => exact ⟨k + 1, hlt, by go_num, HV2, HB2.out⟩
              case measure => simp [intOf]; omega
          · have hB1 : B1 = B := by rw [hbeq]; simp [stp, hr0]
            subst hB1
            have hrB : ((r : Int) == 0) = false := beq_eq_false_iff_ne.2 (by omega)
            clear hbeq hr0
            go_wp2
            go_roundw
            case rel => exact ⟨k + 1, hlt, by go_num, HV2, HB2.out⟩
            case measure => simp [intOf]; omega
        · obtain rfl : k = n := by omega
          go_wp2
          go_meet
          case rel => exact ⟨HV, hb⟩
  case rest =>
    clear HVB hbel
    obtain ⟨HVB, hbz⟩ := hcut
    rename World => w3
    have HDat : Hid (BRow w3 ao n l) := BRow.later HR1.out hbz
    have HRol : Hid (∀ k, k < n → w3.cell? ⟨bR, k, none⟩ = some (.int .u8 (rol l k))) := by
      intro k hk
      have h := (hbz.cell (p := ⟨bR, k, none⟩) HVR.out.1).trans (HVR.out.2 k (by rw [RH_len]; exact hk)).1
      rw [RH_get l n n k hk, if_pos hk] at h
      exact h
    have HBal : Hid (∀ k, k ≤ n → w3.cell? ⟨w1.heap.size, k, none⟩ = some (.int .i64 (bal l k))) := by
      intro k hk
      have h := (HVB.out.2 k (by rw [BH_len]; omega)).1
      rw [BH_get l n n k hk, if_pos hk] at h
      exact h
    have hbw : Below w.heap.size w w3 := hb1.trans (hbz.mono hb1.size)
    obtain ⟨bB, HbB⟩ : ∃ bB, Hid (bB = w1.heap.size) := ⟨_, rfl⟩
    rw [← HbB.out] at HBal ⊢
    clear HVB HVR HR1 hbz hb1 hmk2 HbB HbR
    go_upto_block 2 with fail
    go_cut [9, 10, 11] from 66 to 133 (fun v9 _v10 _v11 wx => ∃ D : Nat, v9 = .int .i64 D ∧ Hid (DP l n D) ∧ w3 = wx)
    case first =>
      as_aux_lemma =>
        go_wp2_with fail
        go_loop [9, 10, 11] (fun v9 v10 _v11 => ∃ (k : Nat), k ≤ n ∧ v10 = .int .i64 k ∧ v9 = .int .i64 n ∧ Hid (∀ j, j < k → dec l j = false)) (fun _ v10 _ => n - (intOf v10).toNat)
        case atStart => exact ⟨0, Nat.zero_le _, rfl, rfl, fun j h => absurd h (Nat.not_lt_zero _)⟩
        case round =>
          obtain ⟨k, hk, rfl, rfl, HN⟩ := hrel
          by_cases hlt : k < n
          · obtain ⟨b, off, hao, hcell⟩ := BRow.at HDat.out k hlt
            subst hao
            have hrole := HRol.out k hlt
            have hba := HBal.out k (by omega)
            have hbn := HBal.out (k + 1) (by omega)
            have hrle := rol_le l k
            have hdec : dec l k = ((rol l k == 1 && bal l k == 0) || (rol l k == 0 && isCl (l.getD k 0) && bal l (k + 1) == 0) || (rol l k == 0 && bal l k == 0 && !isSp (l.getD k 0) && !isOp (l.getD k 0) && !isCl (l.getD k 0))) := rfl
            obtain ⟨c, hc⟩ : ∃ c, c = l.getD k 0 := ⟨_, rfl⟩
            obtain ⟨r, hr⟩ : ∃ r, r = rol l k := ⟨_, rfl⟩
            obtain ⟨B, hB⟩ : ∃ B, B = bal l k := ⟨_, rfl⟩
            obtain ⟨B1, hB1⟩ : ∃ B1, B1 = bal l (k + 1) := ⟨_, rfl⟩
            rw [← hr] at hrole hrle hdec
            rw [← hc] at hcell hdec
            rw [← hB] at hba hdec
            rw [← hB1] at hbn hdec
            unfold bc at hcell
            clear hc hr hB hB1
            by_cases hr0 : r = 0
            · subst hr0
              cases hcl : isCl c
              · by_cases hB0 : B = 0
                · subst hB0
                  cases hsp : isSp c
                  · cases hop : isOp c
                    · have HD : Hid (DP l n k) := .inr ⟨hlt, by rw [hdec]; simp [hcl, hsp, hop], HN.out⟩
                      clear hdec
                      go_wp2_with fail
                      refine (close24 c _).mono ?_
                      rintro en0 w0 ⟨rfl, rfl⟩
                      rw [hcl]
                      go_wp2_with fail
                      refine (space15 c _).mono ?_
                      rintro en0 w0 ⟨rfl, rfl⟩
                      rw [hsp]
                      go_wp2_with fail
                      refine (open23 c _).mono ?_
                      rintro en0 w0 ⟨rfl, rfl⟩
                      rw [hop]
                      go_wp2_with fail
                      refine (close24 c _).mono ?_
                      rintro en0 w0 ⟨rfl, rfl⟩
                      rw [hcl]
                      go_wp2
                      go_meet
                      case rel => exact ⟨k, rfl, HD, rfl⟩
                    · have HN2 : Hid (∀ j, j < k + 1 → dec l j = false) := by
                        intro j hj
                        by_cases e : j = k
                        · subst e; rw [hdec]; simp [hcl, hsp, hop]
                        · exact HN.out j (by omega)
                      clear hdec
                      go_wp2_with fail
                      refine (close24 c _).mono ?_
                      rintro en0 w0 ⟨rfl, rfl⟩
                      rw [hcl]
                      go_wp2_with fail
                      refine (space15 c _).mono ?_
                      rintro en0 w0 ⟨rfl, rfl⟩
                      rw [hsp]
                      go_wp2_with fail
                      refine (open23 c _).mono ?_
                      rintro en0 w0 ⟨rfl, rfl⟩
                      rw [hop]
                      go_wp2
                      go_round
                      case rel => exact ⟨k + 1, hlt, by go_num, rfl, HN2⟩
                      case measure => simp [intOf]; omega
                  · have HN2 : Hid (∀ j, j < k + 1 → dec l j = false) := by
                      intro j hj
                      by_cases e : j = k
                      · subst e; rw [hdec]; simp [hcl, hsp]
                      · exact HN.out j (by omega)
                    clear hdec
                    go_wp2_with fail
                    refine (close24 c _).mono ?_
                    rintro en0 w0 ⟨rfl, rfl⟩
                    rw [hcl]
                    go_wp2_with fail
                    refine (space15 c _).mono ?_
                    rintro en0 w0 ⟨rfl, rfl⟩
                    rw [hsp]
                    go_wp2
                    go_round
                    case rel => exact ⟨k + 1, hlt, by go_num, rfl, HN2⟩
                    case measure => simp [intOf]; omega
                · have hBB : ((B : Int) == 0) = false := beq_eq_false_iff_ne.2 hB0
                  have HN2 : Hid (∀ j, j < k + 1 → dec l j = false) := by
                    intro j hj
                    by_cases e : j = k
                    · subst e; rw [hdec]; simp [hcl, hB0]
                    · exact HN.out j (by omega)
                  clear hdec hB0
                  go_wp2_with fail
                  refine (close24 c _).mono ?_
                  rintro en0 w0 ⟨rfl, rfl⟩
                  rw [hcl]
                  go_wp2
                  go_round
                  case rel => exact ⟨k + 1, hlt, by go_num, rfl, HN2⟩
                  case measure => simp [intOf]; omega
              · obtain ⟨hsp, hop⟩ := cl_sp c hcl
                by_cases hB1 : B1 = 0
                · subst hB1
                  have HD : Hid (DP l n k) := .inr ⟨hlt, by rw [hdec]; simp [hcl], HN.out⟩
                  clear hdec
                  go_wp2_with fail
                  refine (close24 c _).mono ?_
                  rintro en0 w0 ⟨rfl, rfl⟩
                  rw [hcl]
                  go_wp2
                  go_meet
                  case rel => exact ⟨k, rfl, HD, rfl⟩
                · have hBB1 : ((B1 : Int) == 0) = false := beq_eq_false_iff_ne.2 hB1
                  have HN2 : Hid (∀ j, j < k + 1 → dec l j = false) := by
                    intro j hj
                    by_cases e : j = k
                    · subst e; rw [hdec]; simp [hcl, hB1]
                    · exact HN.out j (by omega)
                  clear hdec hB1
                  by_cases hB0 : B = 0
                  · subst hB0
                    go_wp2_with fail
                    refine (close24 c _).mono ?_
                    rintro en0 w0 ⟨rfl, rfl⟩
                    rw [hcl]
                    go_wp2_with fail
                    refine (space15 c _).mono ?_
                    rintro en0 w0 ⟨rfl, rfl⟩
                    rw [hsp]
                    go_wp2_with fail
                    refine (open23 c _).mono ?_
                    rintro en0 w0 ⟨rfl, rfl⟩
                    rw [hop]
                    go_wp2_with fail
                    refine (close24 c _).mono ?_
                    rintro en0 w0 ⟨rfl, rfl⟩
                    rw [hcl]
                    go_wp2
                    go_round
                    case rel => exact ⟨k + 1, hlt, by go_num, rfl, HN2⟩
                    case measure => simp [intOf]; omega
                  · have hBB : ((B : Int) == 0) = false := beq_eq_false_iff_ne.2 hB0
                    clear hB0
                    go_wp2_with fail
                    refine (close24 c _).mono ?_
                    rintro en0 w0 ⟨rfl, rfl⟩
                    rw [hcl]
                    go_wp2
                    go_round
                    case rel => exact ⟨k + 1, hlt, by go_num, rfl, HN2⟩
                    case measure => simp [intOf]; omega
            · have hrB : ((r : Int) == 0) = false := beq_eq_false_iff_ne.2 (by omega)
              by_cases hr1 : r = 1
              · subst hr1
                by_cases hB0 : B = 0
                · subst hB0
                  have HD : Hid (DP l n k) := .inr ⟨hlt, by rw [hdec]; simp, HN.out⟩
                  clear hdec hr0
                  go_wp2
                  go_meet
                  case rel => exact ⟨k, rfl, HD, rfl⟩
                · have hBB : ((B : Int) == 0) = false := beq_eq_false_iff_ne.2 hB0
                  have HN2 : Hid (∀ j, j < k + 1 → dec l j = false) := by
                    intro j hj
                    by_cases e : j = k
                    · subst e; rw [hdec]; simp [hB0]
                    · exact HN.out j (by omega)
                  clear hdec hB0 hr0
                  go_wp2
                  go_round
                  case rel => exact ⟨k + 1, hlt, by go_num, rfl, HN2⟩
                  case measure => simp [intOf]; omega
              · have hrB1 : ((r : Int) == 1) = false := beq_eq_false_iff_ne.2 (by omega)
                have HN2 : Hid (∀ j, j < k + 1 → dec l j = false) := by
                  intro j hj
                  by_cases e : j = k
                  · subst e; rw [hdec]; simp [hr0, hr1]
                  · exact HN.out j (by omega)
                clear hdec hr0 hr1
                go_wp2
                go_round
                case rel => exact ⟨k + 1, hlt, by go_num, rfl, HN2⟩
                case measure => simp [intOf]; omega
          · obtain rfl : k = n := by omega
            go_wp2
            go_meet
            case rel => exact ⟨k, rfl, .inl ⟨rfl, HN.out⟩, rfl⟩
    case rest =>
      obtain ⟨D, rfl, HD, rfl⟩ := hcut
      rename World => w3
      have hDn : D ≤ n := by
        rcases HD.out with ⟨h, _⟩ | ⟨h, _⟩ <;> omega
      go_upto_block 4 with fail
      go_cut [12, 13] from 134 to 148 (fun v12 _v13 wx => v12 = .int .i64 (pk l D) ∧ w3 = wx)
      case first =>
        as_aux_lemma =>
          go_wp2_with fail
          go_loop [12, 13] (fun v12 v13 => ∃ (j : Nat) (P : Int), j ≤ D + 1 ∧ v13 = .int .i64 j ∧ v12 = .int .i64 P ∧ Hid (P = if j = 0 then 0 else pk l (j - 1))) (fun _ v13 => D + 1 - (intOf v13).toNat)
          case atStart => exact ⟨0, 0, Nat.zero_le _, rfl, rfl, rfl⟩
          case round =>
            obtain ⟨j, P, hj, rfl, rfl, HP⟩ := hrel
            by_cases hlt : j ≤ D
            · have hba := HBal.out j (by omega)
              have hnext : pk l j = max P (bal l j) := by
                rw [HP.out]
                cases j with
                | zero => rfl
                | succ j => rw [if_neg (by omega)]; rfl
              obtain ⟨B, hB⟩ : ∃ B, B = bal l j := ⟨_, rfl⟩
              rw [← hB] at hba hnext
              clear hB
              by_cases hgt : P < B
              · have HP2 : Hid (B = if j + 1 = 0 then 0 else pk l (j + 1 - 1)) := by rw [if_neg (by omega), Nat.add_sub_cancel, hnext]; show _ = _; omega
                clear hnext
                go_wp2
                go_round
                case rel => exact ⟨j + 1, B, by omega, by go_num, rfl, HP2⟩
                case measure => simp [intOf]; omega
              · have HP2 : Hid (P = if j + 1 = 0 then 0 else pk l (j + 1 - 1)) := by rw [if_neg (by omega), Nat.add_sub_cancel, hnext]; show _ = _; omega
                clear hnext
                go_wp2
                go_round
                case rel => exact ⟨j + 1, P, by omega, by go_num, rfl, HP2⟩
                case measure => simp [intOf]; omega
            · obtain rfl : j = D + 1 := by omega
              have hP : P = pk l D := by rw [HP.out, if_neg (by omega), Nat.add_sub_cancel]
              subst hP
              go_wp2
              go_meet
              case rel => exact ⟨rfl, rfl⟩
      case rest =>
        obtain ⟨rfl, rfl⟩ := hcut
        rename World => w3
        have hpb := pk_ge l D
        have hrB := fun v : Value => v
        clear hrB
        rcases HD.out with ⟨hDe, hall⟩ | ⟨hDl, hdec, hno⟩
        · subst hDe
          have HR2 : Hid (R = (D, pk l D)) := by
            rw [HR.out]
            have h := res_none l (by rw [HL.out]; exact hall)
            rw [HL.out] at h
            exact h
          clear hall
          go_wp2
          exact bodyPost_ret (v := .tuple #[.int .i64 (D : Int), .int .i64 (pk l D)]) (by simp [results, Tryd.results10, go_sem]) rfl ⟨ret_m HR2.out, hbw⟩
        · have hDB : ((D : Int) == (n : Int)) = false := beq_eq_false_iff_ne.2 (by omega)
          have hrole := HRol.out D hDl
          obtain ⟨b, off, hao, hcell⟩ := BRow.at HDat.out D hDl
          subst hao
          unfold bc at hcell
          rcases dec_cases l D hdec with ⟨d1, d2⟩ | ⟨d1, d2, d3⟩ | ⟨d1, d2, d3, d4, d5⟩
          · have hres := res_str l D (by rw [HL.out]; exact hDl) hno d1 d2
            have hinq := inq_start l D d1
            rw [← HR.out, HL.out] at hres
            obtain ⟨q, Hq⟩ : ∃ q, Hid (q = cqa (l.drop (D + 1)) (D + 1) false) := ⟨_, rfl⟩
            rw [← Hq.out] at hres hinq
            have HRS : Hid (R = if q < n then (q + 1, 0) else (n, 0)) := hres
            have HIQ : Hid (InQ l q (D + 1)) := hinq
            rw [d1] at hrole
            clear hres hinq Hq d1 d2 hdec hno
            go_wp2_with fail
            go_loop [14] (fun v14 => ∃ j : Nat, j ≤ n ∧ v14 = .int .i64 j ∧ Hid (InQ l q j)) (fun v14 => n - (intOf v14).toNat)
            case atStart => exact ⟨D + 1, hDl, by go_num, HIQ⟩
            case round =>
              clear HIQ
              obtain ⟨j, hj, rfl, HIQ⟩ := hrel
              by_cases hlt : j < n
              · obtain ⟨s1, s2⟩ := inq_step l q j (by rw [HL.out]; exact hlt) HIQ.out
                have hrj := HRol.out j hlt
                obtain ⟨r, hr⟩ : ∃ r, r = rol l j := ⟨_, rfl⟩
                rw [← hr] at s1 s2 hrj
                clear hr
                by_cases h3 : r = 3
                · subst h3
                  have hq := s1 rfl
                  have HR2 : Hid (R = (j + 1, 0)) := by rw [HRS.out, hq, if_pos hlt]; exact rfl
                  clear s1 s2 hq HIQ
                  go_wp2
                  exact bodyPost_ret (v := .tuple #[.int .i64 ((j + 1 : Nat) : Int), .int .i64 0]) (by simp [results, Tryd.results10, go_sem]) rfl ⟨ret_m HR2.out, hbw⟩
                · have h3B : ((r : Int) == 3) = false := beq_eq_false_iff_ne.2 (by omega)
                  have HI2 : Hid (InQ l q (j + 1)) := s2 h3
                  clear s1 s2 HIQ h3
                  go_wp2
                  go_round
                  case rel => exact ⟨j + 1, hlt, by go_num, HI2⟩
                  case measure => simp [intOf]; omega
              · obtain rfl : j = n := by omega
                have HR2 : Hid (R = (j, 0)) := by
                  have h := HIQ.out
                  rw [← HL.out] at h
                  have hq := inq_end l q h
                  rw [HL.out] at hq
                  rw [HRS.out, hq, if_neg (by omega)]; exact rfl
                go_wp2
                exact bodyPost_ret (v := .tuple #[.int .i64 (j : Int), .int .i64 0]) (by simp [results, Tryd.results10, go_sem]) rfl ⟨ret_m HR2.out, hbw⟩
          · have HR2 : Hid (R = (D + 1, pk l D)) := by rw [HR.out]; exact res_close l D (by rw [HL.out]; exact hDl) hno d1 d2 d3
            rw [d1] at hrole
            obtain ⟨c, hc⟩ : ∃ c, c = l.getD D 0 := ⟨_, rfl⟩
            rw [← hc] at hcell d2
            clear hc d1 d3 hdec hno
            go_wp2_with fail
            refine (close24 c _).mono ?_
            rintro en0 w0 ⟨rfl, rfl⟩
            rw [d2]
            go_wp2
            exact bodyPost_ret (v := .tuple #[.int .i64 ((D + 1 : Nat) : Int), .int .i64 (pk l D)]) (by simp [results, Tryd.results10, go_sem]) rfl ⟨ret_m HR2.out, hbw⟩
          · have HRS : Hid (R = (D + ixd (l.drop D), 0)) := by rw [HR.out]; exact res_bare l D (by rw [HL.out]; exact hDl) hno d1 d2 d3 d4 d5
            rw [d1] at hrole
            obtain ⟨c, hc⟩ : ∃ c, c = l.getD D 0 := ⟨_, rfl⟩
            rw [← hc] at hcell d5
            clear hc d1 d2 d3 d4 hdec hno
            go_wp2_with fail
            refine (close24 c _).mono ?_
            rintro en0 w0 ⟨rfl, rfl⟩
            rw [d5]
            clear d5 hcell hrole
            rename World => w3
            go_wp2_with fail
            go_loop [15] (fun v15 => ∃ j : Nat, D ≤ j ∧ j ≤ n ∧ v15 = .int .i64 j ∧ Hid (∀ i, D ≤ i → i < j → isDl (l.getD i 0) = false)) (fun v15 => n - (intOf v15).toNat)
            case atStart => exact ⟨D, Nat.le_refl _, hDn, rfl, fun i h1 h2 => absurd h2 (by omega)⟩
            case round =>
              obtain ⟨j, hDj, hj, rfl, HN⟩ := hrel
              by_cases hlt : j < n
              · obtain ⟨b', off', hao', hcj⟩ := BRow.at HDat.out j hlt
                cases hao'
                have hdrop : ∀ i, (l.drop D).getD i 0 = l.getD (D + i) 0 := fun i => by rw [List.getD_eq_getElem?_getD, List.getElem?_drop, ← List.getD_eq_getElem?_getD]
                cases hdl : isDl (l.getD j 0)
                · have HN2 : Hid (∀ i, D ≤ i → i < j + 1 → isDl (l.getD i 0) = false) := by
                    intro i h1 h2
                    by_cases e : i = j
                    · subst e; exact hdl
                    · exact HN.out i h1 (by omega)
                  obtain ⟨c2, hc2⟩ : ∃ c2, c2 = l.getD j 0 := ⟨_, rfl⟩
                  rw [← hc2] at hcj hdl
                  unfold bc at hcj
                  clear hc2 hdrop HN
                  go_wp2_with fail
                  refine (delim25 c2 _).mono ?_
                  rintro en0 w0 ⟨rfl, rfl⟩
                  rw [hdl]
                  go_wp2
                  go_round
                  case rel => exact ⟨j + 1, by omega, hlt, by go_num, HN2⟩
                  case measure => simp [intOf]; omega
                · have HR2 : Hid (R = (j, 0)) := by
                    have h := ixd_hit (l.drop D) (j - D) (by rw [List.length_drop, HL.out]; omega) (by rw [hdrop, show D + (j - D) = j from by omega]; exact hdl) (fun i hi => by rw [hdrop]; exact HN.out (D + i) (by omega) (by omega))
                    rw [HRS.out, h, show D + (j - D) = j from by omega]; exact rfl
                  obtain ⟨c2, hc2⟩ : ∃ c2, c2 = l.getD j 0 := ⟨_, rfl⟩
                  rw [← hc2] at hcj hdl
                  unfold bc at hcj
                  clear hc2 hdrop HN
                  go_wp2_with fail
                  refine (delim25 c2 _).mono ?_
                  rintro en0 w0 ⟨rfl, rfl⟩
                  rw [hdl]
                  go_wp2
                  exact bodyPost_ret (v := .tuple #[.int .i64 (j : Int), .int .i64 0]) (by simp [results, Tryd.results10, go_sem]) rfl ⟨ret_m HR2.out, hbw⟩
              · obtain rfl : j = n := by omega
                have HR2 : Hid (R = (j, 0)) := by
                  have h := ixd_none (l.drop D) (fun i hi => by
                    rw [List.length_drop, HL.out] at hi
                    rw [List.getD_eq_getElem?_getD, List.getElem?_drop, ← List.getD_eq_getElem?_getD]
                    exact HN.out (D + i) (by omega) (by omega))
                  rw [List.length_drop, HL.out] at h
                  rw [HRS.out, h, show D + (j - D) = j from by omega]; exact rfl
                go_wp2
                exact bodyPost_ret (v := .tuple #[.int .i64 (j : Int), .int .i64 0]) (by simp [results, Tryd.results10, go_sem]) rfl ⟨ret_m HR2.out, hbw⟩
end Go.Proofs.Qxb6602401aDoor
