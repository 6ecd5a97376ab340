import Derived.Test.Qxb6601590aDoorPl
import Derived.Deep.DeepCutAuto
import Derived.Deep.CutBlock
namespace Go.Proofs.Qxb6601590aDoor
open Go.RowKit

theorem Tryd.info5 : (Tryd.prog.info? 5).map (fun i => (i.zero, i.size, i.bytes)) = some (some (.int .u8 0), 1, 1) := by kernel_rfl

theorem getD_get (s : ByteArray) (i : Nat) (h : i < s.size) : s.data.toList.getD i 0 = s[i] := by
  rw [List.getD_eq_getElem?_getD, List.getElem?_eq_getElem (by simpa using h)]; rfl

theorem ret_model {m : List UInt8 × Bool} {a : List UInt8} {b : Bool} (h : m = (a, b)) :
    Ending.returned (.tuple #[.string ⟨a.toArray⟩, .bool b]) = Ending.returned (.tuple #[.string ⟨m.1.toArray⟩, .bool m.2]) := by rw [h]

theorem is46 (c : UInt8) : (c = 46) ↔ ((c.toNat : Int) = 46) := by
  constructor
  · intro e; rw [e]; rfl
  · intro e; apply UInt8.toNat_inj.1; simp; omega

/-- one byte more in a row that the call owns -/
theorem one_new (w : World) (c : UInt8) : ∀ j u, [bc c][j]? = some u → (w.alloc (.cells #[bc c] 5)).cell? ((⟨w.heap.size, 0, none⟩ : Addr).add j) = some u := cell_one_new _ _ _

theorem bc_one (c : UInt8) : ∀ u ∈ [bc c], u.oneCell' = true := by
  intro u hu; simp at hu; subst hu; rfl

theorem conv_row {w : World} {base g cap : Nat} {l : List UInt8} (h : w.ownsRow base 5 1 (.slice (some ⟨g, 0, none⟩) l.length cap) l.length (Bs l)) :
    (convert 26 9 (.slice (some ⟨g, 0, none⟩) l.length cap)).run Tryd.prog w = .ok (.string ⟨l.toArray⟩) w := by
  refine run_convert_bytes_back w 26 9 5 ⟨g, 0, none⟩ cap l Tryd.underlying26 Tryd.underlying5 Tryd.underlying9 fun j hj => ?_
  have h1 := h.cellAt j (by omega)
  rw [Bs_get l j hj] at h1
  rw [Addr.add_lit, Nat.zero_add, h1]
  simp [List.getD_eq_getElem?_getD, List.getElem?_eq_getElem hj]

theorem row_cell {w : World} {base g cap n : Nat} {l : List UInt8} (h : w.ownsRow base 5 1 (.slice (some ⟨g, 0, none⟩) n cap) n (Bs l)) (i : Nat) (hi : i < n) (hl : i < l.length) :
    w.cell? ⟨g, i, none⟩ = some (.int .u8 (l.getD i 0).toNat) := by
  rw [h.cellAt i (by omega), Bs_get l i hl]

theorem is48 (c : UInt8) : (c = 48) ↔ ((c.toNat : Int) = 48) := by
  constructor
  · intro e; rw [e]; rfl
  · intro e; apply UInt8.toNat_inj.1; simp; omega

theorem take_succ_getD (D : List UInt8) (q : Nat) (h : q < D.length) : D.take (q + 1) = D.take q ++ [D.getD q 0] := by
  rw [List.take_succ_eq_append_getElem h, List.getD_eq_getElem?_getD, List.getElem?_eq_getElem h]; rfl

set_option maxHeartbeats 1000000 in
set_option maxRecDepth 100000 in
theorem model_any (s : ByteArray) (e : Int) (w : World) (hs : s.size ≤ 65536) (he1 : -65536 ≤ e) (he2 : e ≤ 65536) :
    Calls Tryd.prog 8 #[.string s, .int .i64 e] w fun en w' => en = .returned (.tuple #[.string ⟨(model s.data.toList e).1.toArray⟩, .bool (model s.data.toList e).2]) ∧ Below w.heap.size w w' := by
  obtain ⟨ws, HS, hws⟩ : ∃ ws, Hid (ws = wsOf s.data.toList) ∧ ws ≤ s.size := ⟨_, rfl, wsOf_le _⟩
  obtain ⟨we, HE, hwe0, hwe⟩ : ∃ we, Hid (we = runEnd s.data.toList ws) ∧ ws ≤ we ∧ we ≤ s.size := ⟨_, rfl, le_runEnd _ _, runEnd_le _ _ hws⟩
  obtain ⟨neg, HN⟩ : ∃ neg, Hid (neg = negB s.data.toList) := ⟨_, rfl⟩
  go_enter Tryd.func8, Tryd.ntmps8
  go_upto_region 3 with fail
  go_cut [37] from 28 to 36 (fun b wx => b = .bool neg ∧ wx = w)
  case first =>
    by_cases h0 : 0 < s.size
    · have hg := negB_get s h0
      rw [← HN.out] at hg
      by_cases hb : (s[0].toNat : Int) = 45
      · have hbb : ((s[0].toNat : Int) == 45) = true := beq_iff_eq.2 hb
        rw [decide_eq_true hb] at hg
        clear hb
        go_wp2
        go_meet
        case rel => exact ⟨by rw [hg], rfl⟩
      · have hbb : ((s[0].toNat : Int) == 45) = false := beq_eq_false_iff_ne.2 hb
        rw [decide_eq_false hb] at hg
        clear hb
        go_wp2
        go_meet
        case rel => exact ⟨by rw [hg], rfl⟩
    · have hg := negB_nil s (by omega)
      rw [← HN.out] at hg
      go_wp2
      go_meet
      case rel => exact ⟨by rw [hg], rfl⟩
  case rest =>
    obtain ⟨rfl, rfl⟩ := hcut
    go_upto_if 37 with fail
    go_cut [6, 7] from 28 to 39 (fun i n wx => i = .int .i64 ws ∧ n = .bool neg ∧ wx = wc)
    case first =>
      have hw := HS.out
      unfold wsOf at hw
      rw [← HN.out] at hw
      have HW : Hid _ := hw
      clear hw
      cases neg
      · go_wp2
        go_meet
        case rel => exact ⟨by rw [HW.out]; rfl, rfl, rfl⟩
      · go_wp2
        go_meet
        case rel => exact ⟨by rw [HW.out]; rfl, rfl, rfl⟩
    case rest =>
      obtain ⟨rfl, rfl, rfl⟩ := hcut
      go_upto_block 0 with fail
      go_cut [6] from 41 to 52 (fun i wx => i = .int .i64 we ∧ wx = wc)
      case first =>
        go_wp2_with fail
        go_loop [6] (fun i => ∃ k : Nat, ws ≤ k ∧ k ≤ we ∧ i = .int .i64 k) (fun i => s.size - (intOf i).toNat)
        case atStart => exact ⟨ws, Nat.le_refl _, by omega, rfl⟩
        case round =>
          obtain ⟨k, hk1, hk2, rfl⟩ := hrel
          by_cases hlt : k < we
          · have hks : k < s.size := by omega
            have hd : isDig s[k] = true := runEnd_dig s ws k hk1 (by rw [← HE.out]; exact hlt) hks
            go_wp2_with (go_at_call 17; refine (zzDigit_any _ _).mono ?_; rintro e w' ⟨rfl, rfl⟩)
            go_round
            case rel => exact ⟨k + 1, by omega, by omega, by go_num⟩
            case measure => simp [intOf]; omega
          · obtain rfl : k = we := by omega
            by_cases hks : k < s.size
            · have hd : isDig s[k] = false := by
                have h := HE.out
                subst h
                exact runEnd_stop s ws hks
              go_wp2_with (go_at_call 17; refine (zzDigit_any _ _).mono ?_; rintro e w' ⟨rfl, rfl⟩)
              go_meet
              case rel => exact ⟨rfl, rfl⟩
            · go_wp2_with fail
              go_meet
              case rel => exact ⟨rfl, rfl⟩
      case rest =>
        obtain ⟨rfl, rfl⟩ := hcut
        by_cases hne : we = ws
        · have HM : Hid (model s.data.toList e = ([], false)) := by
            unfold model
            rw [← HS.out, ← HE.out, if_pos hne]
            exact rfl
          subst hne
          go_wp2
          go_ret2
          exact ⟨ret_model HM.out, Below.refl _ _⟩
        · have hneB : ((we : Int) == (ws : Int)) = false := beq_eq_false_iff_ne.2 (by omega)
          have hlt : ws < we := by omega
          have HNE : Hid (¬ we = ws) := hne
          clear hne
          go_upto_if 62 with fail
          go_cut [6, 10, 11] from 62 to 91 (fun _ f0 f1 wx => ∃ fs nf : Nat, f0 = .int .i64 fs ∧ f1 = .int .i64 ((fs : Int) + nf) ∧ fs + nf ≤ s.size ∧ we ≤ fs ∧ wx = wc ∧
            Hid (model s.data.toList e = (mbody neg ((s.data.toList.drop ws).take (we - ws) ++ (s.data.toList.drop fs).take nf) (e + (we - ws : Nat) - 1), true)))
          case first =>
            by_cases hws2 : we < s.size
            · rw [decide_eq_true hws2]
              by_cases hpt : s[we] = 46
              · have hptB : ((s[we].toNat : Int) != 46) = false := by
                  rw [bne_eq_false_iff_eq]; exact (is46 _).1 hpt
                have HP : Hid (s[we] = 46) := hpt
                clear hpt
                obtain ⟨fe, HF, hfe0, hfe⟩ : ∃ fe, Hid (fe = runEnd s.data.toList (we + 1)) ∧ we + 1 ≤ fe ∧ fe ≤ s.size := ⟨_, rfl, le_runEnd _ _, runEnd_le _ _ hws2⟩
                go_upto_block 2 with fail
                go_cut [6] from 70 to 81 (fun i wx => i = .int .i64 fe ∧ wx = wc)
                case first =>
                  go_wp2_with fail
                  go_loop [6] (fun i => ∃ k : Nat, we + 1 ≤ k ∧ k ≤ fe ∧ i = .int .i64 k) (fun i => s.size - (intOf i).toNat)
                  case atStart => exact ⟨we + 1, Nat.le_refl _, by omega, by go_num⟩
                  case round =>
                    obtain ⟨k, hk1, hk2, rfl⟩ := hrel
                    by_cases hlt : k < fe
                    · have hks : k < s.size := by omega
                      have hd : isDig s[k] = true := runEnd_dig s (we + 1) k hk1 (by rw [← HF.out]; exact hlt) hks
                      go_wp2_with (go_at_call 17; refine (zzDigit_any _ _).mono ?_; rintro e w' ⟨rfl, rfl⟩)
                      go_round
                      case rel => exact ⟨k + 1, by omega, by omega, by go_num⟩
                      case measure => simp [intOf]; omega
                    · obtain rfl : k = fe := by omega
                      by_cases hks : k < s.size
                      · have hd : isDig s[k] = false := by
                          have h := HF.out
                          subst h
                          exact runEnd_stop s (we + 1) hks
                        go_wp2_with (go_at_call 17; refine (zzDigit_any _ _).mono ?_; rintro e w' ⟨rfl, rfl⟩)
                        go_meet
                        case rel => exact ⟨rfl, rfl⟩
                      · go_wp2_with fail
                        go_meet
                        case rel => exact ⟨rfl, rfl⟩
                case rest =>
                  obtain ⟨rfl, rfl⟩ := hcut
                  by_cases hbad : fe = we + 1 ∨ fe ≠ s.size
                  · have HM : Hid (model s.data.toList e = ([], false)) := by
                      unfold model; rw [show s.data.toList.length = s.size from rfl]
                      rw [← HS.out, ← HE.out, if_neg HNE.out, if_pos hws2, getD_get s we hws2, if_neg (by rw [HP.out]; decide), ← HF.out, if_pos hbad]
                      exact rfl
                    by_cases hb1 : fe = we + 1
                    · subst hb1
                      go_wp2
                      go_ret2
                      exact ⟨ret_model HM.out, Below.refl _ _⟩
                    · have hb2 : fe < s.size := by omega
                      have hb3 : ((fe : Int) == (we : Int) + 1) = false := beq_eq_false_iff_ne.2 (by omega)
                      have hb4 : ((fe : Int) != (s.size : Int)) = true := by rw [bne_iff_ne]; omega
                      clear hbad hb1
                      go_wp2
                      go_ret2
                      exact ⟨ret_model HM.out, Below.refl _ _⟩
                  · have hb3 : ((fe : Int) == (we : Int) + 1) = false := beq_eq_false_iff_ne.2 (by omega)
                    have hb4 : ((fe : Int) != (s.size : Int)) = false := by rw [bne_eq_false_iff_eq]; omega
                    have HM : Hid (model s.data.toList e = (mbody neg ((s.data.toList.drop ws).take (we - ws) ++ (s.data.toList.drop (we + 1)).take (s.size - (we + 1))) (e + (we - ws : Nat) - 1), true)) := by
                      unfold model; rw [show s.data.toList.length = s.size from rfl]
                      rw [← HS.out, ← HE.out, ← HN.out, if_neg HNE.out, if_pos hws2, getD_get s we hws2, if_neg (by rw [HP.out]; decide), ← HF.out, if_neg hbad]
                      exact rfl
                    have hfeq1 : fe ≤ s.size := by omega
                    have hfeq2 : s.size ≤ fe := by omega
                    clear hbad
                    go_wp2
                    go_meet
                    case rel => exact ⟨we + 1, s.size - (we + 1), by go_num, by go_num, by omega, by omega, rfl, HM⟩
              · have hptB : ((s[we].toNat : Int) != 46) = true := by
                  rw [bne_iff_ne]; exact fun h => hpt ((is46 _).2 h)
                have HM : Hid (model s.data.toList e = ([], false)) := by
                  unfold model; rw [show s.data.toList.length = s.size from rfl]
                  rw [← HS.out, ← HE.out, if_neg HNE.out, if_pos hws2, getD_get s we hws2, if_pos hpt]
                  exact rfl
                clear hpt
                go_wp2
                go_ret2
                exact ⟨ret_model HM.out, Below.refl _ _⟩
            · have HM : Hid (model s.data.toList e = (mbody neg ((s.data.toList.drop ws).take (we - ws) ++ (s.data.toList.drop we).take 0) (e + (we - ws : Nat) - 1), true)) := by
                unfold model; rw [show s.data.toList.length = s.size from rfl]
                rw [← HS.out, ← HE.out, ← HN.out, if_neg HNE.out, if_neg hws2]
                exact rfl
              go_wp2
              go_meet
              case rel => exact ⟨we, 0, rfl, by go_num, by omega, by omega, rfl, HM⟩
          case rest =>
            obtain ⟨fs, nf, rfl, rfl, hfs, hfs0, rfl, HM⟩ := hcut
            rename World => W0
            obtain ⟨nw, hnw, hnw1, hnw2⟩ : ∃ nw, Hid (we - ws = nw) ∧ we ≤ ws + nw ∧ ws + nw ≤ we := ⟨we - ws, rfl, by omega, by omega⟩
            rw [hnw.out] at HM
            clear hnw
            obtain ⟨i0, hi, hz0, hz1, hz2⟩ := info_parts Tryd.info5
            go_wp2_with (at_make; refine wpList_make_own _ rfl _ _ 26 rfl W0.heap.size 5 i0 (.int .u8 0) 1 Tryd.underlying26 hi hz0 hz1 .i64 .i64 _ (nw + nf) rfl rfl ?_ ?_ ?_ (Nat.le_refl _) ?_)
            · omega
            · rw [hz2]; omega
            · unfold maxLen; omega
            · intro w1 hown hgrow
              have hb1 : Below W0.heap.size W0 w1 := (Below.refl _ _).grown hgrow (Nat.le_refl _) (fun k h => by cases h)
              clear hgrow
              go_wp2_with fail
              go_loopw [13, 14] (fun v i wr => ∃ j : Nat, j ≤ nw ∧ i = .int .i64 ((ws : Int) + j) ∧ v = .slice (some ⟨W0.heap.size, 0, none⟩) j (nw + nf) ∧
                  wr.ownsRow W0.heap.size 5 1 (.slice (some ⟨W0.heap.size, 0, none⟩) j (nw + nf)) j (Bs (seg s ws j)) ∧ Below W0.heap.size W0 wr) (fun _ i _ => we - (intOf i).toNat)
              case atStart => exact ⟨0, Nat.zero_le _, by go_num, rfl, hown, hb1⟩
              case round =>
                clear hown hb1
                obtain ⟨j, hj, rfl, rfl, hown, hb⟩ := hrel
                by_cases hlt2 : j < nw
                · have hin : ws + j < s.size := by omega
                  go_wp2_with (at_builtin; refine wpList_append_fits _ rfl _ _ 26 rfl W0.heap.size 5 i0 1 Tryd.underlying26 hi hz1 W0.heap.size j (nw + nf) _ rfl (hown.alloc _) ⟨wr.heap.size, 0, none⟩ 1 1 [bc s[ws + j]] rfl rfl (one_new _ _) (bc_one _) (by omega) ?_)
                  intro w2 hown2 hgrow
                  rw [Bs_snoc, ← seg_snoc s ws j hin] at hown2
                  have hb2 : Below W0.heap.size W0 w2 := (hb.alloc hb.size _).grown hgrow (by have := hb.size; simp; omega) (fun k h => by cases h; exact Nat.le_refl _)
                  clear hgrow hown hb
                  go_wp2
                  go_roundw
                  case rel => exact ⟨j + 1, by omega, by go_num, rfl, hown2, hb2⟩
                  case measure => simp [intOf]; omega
                · obtain rfl : j = nw := by omega
                  go_wp2_with fail
                  obtain ⟨w3, HW3⟩ : ∃ w3, Hid (w3 = wr) := ⟨_, rfl⟩
                  go_loopw [13, 15] (fun v i wr => ∃ k : Nat, k ≤ nf ∧ i = .int .i64 ((fs : Int) + k) ∧ v = .slice (some ⟨W0.heap.size, 0, none⟩) (j + k) (j + nf) ∧
                    wr.ownsRow W0.heap.size 5 1 (.slice (some ⟨W0.heap.size, 0, none⟩) (j + k) (j + nf)) (j + k) (Bs (seg s ws j ++ seg s fs k)) ∧ Below W0.heap.size W0 wr) (fun _ i _ => fs + nf - (intOf i).toNat)
                  case atStart => exact ⟨0, Nat.zero_le _, by go_num, rfl, by simpa [seg] using hown, hb⟩
                  case round =>
                    clear hown hb HW3 w3
                    obtain ⟨k, hk, rfl, rfl, hown, hb⟩ := hrel
                    by_cases hlt3 : k < nf
                    · have hin : fs + k < s.size := by omega
                      go_wp2_with (at_builtin; refine wpList_append_fits _ rfl _ _ 26 rfl W0.heap.size 5 i0 1 Tryd.underlying26 hi hz1 W0.heap.size (j + k) (j + nf) _ rfl (hown.alloc _) ⟨wr.heap.size, 0, none⟩ 1 1 [bc s[fs + k]] rfl rfl (one_new _ _) (bc_one _) (by omega) ?_)
                      intro w2 hown2 hgrow
                      rw [Bs_snoc, List.append_assoc, ← seg_snoc s fs k hin] at hown2
                      have hb2 : Below W0.heap.size W0 w2 := (hb.alloc hb.size _).grown hgrow (by have := hb.size; simp; omega) (fun k h => by cases h; exact Nat.le_refl _)
                      clear hgrow hown hb
                      go_wp2
                      go_roundw
                      case rel => exact ⟨k + 1, by omega, by go_num, rfl, hown2, hb2⟩
                      case measure => simp [intOf]; omega
                    · obtain rfl : k = nf := by omega
                      obtain ⟨D, HD, hD1, hD2⟩ : ∃ D, Hid (D = seg s ws j ++ seg s fs k) ∧ D.length ≤ j + k ∧ j + k ≤ D.length :=
                        ⟨_, rfl, by rw [List.length_append, seg_len s ws j (by omega), seg_len s fs k (by omega)]; exact Nat.le_refl _, by rw [List.length_append, seg_len s ws j (by omega), seg_len s fs k (by omega)]; exact Nat.le_refl _⟩
                      rw [← HD.out] at hown
                      go_wp2_with fail
                      obtain ⟨w3, hw3⟩ : ∃ w3, w3 = wr := ⟨_, rfl⟩
                      rw [← hw3] at hown hb ⊢
                      clear hw3
                      go_loop [17, 18, 19] (fun a b i => ∃ (q : Nat) (x y : Int), q ≤ j + k ∧ i = .int .i64 q ∧ a = .int .i64 x ∧ b = .int .i64 y ∧ -1 ≤ x ∧ x < q ∧ -1 ≤ y ∧ y < q ∧ Hid (x = nzA (D.take q) ∧ y = nzB (D.take q) ∧ (x < 0 ↔ y < 0) ∧ x ≤ y)) (fun _ _ i => j + k - (intOf i).toNat)
                      case atStart => exact ⟨0, -1, -1, Nat.zero_le _, rfl, rfl, rfl, by omega, by omega, by omega, by omega, rfl, rfl, Iff.rfl, by omega⟩
                      case round =>
                        obtain ⟨q, x, y, hq, rfl, rfl, rfl, hx1, hx2, hy1, hy2, HX⟩ := hrel
                        by_cases hlt4 : q < j + k
                        · have hcell := row_cell hown q (by omega) (by omega)
                          have hsn := take_succ_getD D q (by omega)
                          have htl : (D.take q).length = q := by rw [List.length_take]; omega
                          obtain ⟨c, Hc⟩ : ∃ c, Hid (c = D.getD q 0) := ⟨_, rfl⟩
                          rw [← Hc.out] at hcell hsn
                          have HSN : Hid _ := hsn
                          have HTL : Hid _ := htl
                          clear hsn htl
                          obtain ⟨e1, e2, e3, e4⟩ := HX.out
                          by_cases hc : c = 48
                          · have hcB : ((c.toNat : Int) != 48) = false := by rw [bne_eq_false_iff_eq]; exact (is48 _).1 hc
                            have HR : Hid (x = nzA (D.take (q + 1)) ∧ y = nzB (D.take (q + 1)) ∧ (x < 0 ↔ y < 0) ∧ x ≤ y) := by
                              rw [HSN.out, hc, nzA_zero, nzB_zero]; exact HX.out
                            clear e1 e2 e3 e4 hc HX
                            go_wp2
                            go_round
                            case rel => exact ⟨q + 1, x, y, by omega, by go_num, rfl, rfl, by omega, by omega, by omega, by omega, HR⟩
                            case measure => simp [intOf]; omega
                          · have hcB : ((c.toNat : Int) != 48) = true := by rw [bne_iff_ne]; exact fun h => hc ((is48 _).2 h)
                            by_cases hxn : x < 0
                            · have HR : Hid ((q : Int) = nzA (D.take (q + 1)) ∧ (q : Int) = nzB (D.take (q + 1)) ∧ ((q : Int) < 0 ↔ (q : Int) < 0) ∧ (q : Int) ≤ q) := by
                                rw [HSN.out, nzA_neg _ _ hc (by rw [← e1]; exact hxn), nzB_set _ _ hc, HTL.out]; exact ⟨rfl, rfl, Iff.rfl, Int.le_refl _⟩
                              clear e1 e2 e3 e4 hc HX
                              go_wp2
                              go_round
                              case rel => exact ⟨q + 1, q, q, by omega, by go_num, rfl, rfl, by omega, by omega, by omega, by omega, HR⟩
                              case measure => simp [intOf]; omega
                            · have HR : Hid (x = nzA (D.take (q + 1)) ∧ (q : Int) = nzB (D.take (q + 1)) ∧ (x < 0 ↔ (q : Int) < 0) ∧ x ≤ (q : Int)) := by
                                rw [HSN.out, nzA_pos _ _ hc (by rw [← e1]; omega), nzB_set _ _ hc, HTL.out]; exact ⟨e1, rfl, by omega, by omega⟩
                              clear e1 e2 e3 e4 hc HX
                              go_wp2
                              go_round
                              case rel => exact ⟨q + 1, x, q, by omega, by go_num, rfl, rfl, by omega, by omega, by omega, by omega, HR⟩
                              case measure => simp [intOf]; omega
                        · obtain rfl : q = j + k := by omega
                          obtain ⟨e1, e2, e3, e4⟩ := HX.out
                          rw [List.take_of_length_le hD1] at e1 e2
                          have HM2 : Hid (model s.data.toList e = (mbody neg D (e + (j : Int) - 1), true)) := by
                            rw [HD.out]; exact HM.out
                          clear HM HX
                          by_cases hxn : x < 0
                          · have HF : Hid (model s.data.toList e = ([], true)) := by
                              have h := HM2.out
                              unfold mbody at h
                              rw [if_pos (by rw [← e1]; exact hxn)] at h
                              exact h
                            clear e1 e2 e3 e4
                            go_wp2
                            go_ret2
                            exact ⟨ret_model HF.out, hb⟩
                          · have HX : Hid (x = nzA D ∧ y = nzB D) := ⟨e1, e2⟩
                            have hy0 : x ≤ y := e4
                            clear e1 e2 e3 e4
                            obtain ⟨top, HT, ht0, ht1, ht2⟩ : ∃ top : Int, Hid (top = max (e + (j : Int) - 1 - x) 0) ∧ 0 ≤ top ∧ e + (j : Int) - 1 - x ≤ top ∧ top ≤ 140000 := ⟨_, rfl, by omega, by omega, by omega⟩
                            obtain ⟨bot, HB, hbt0, hbt1, hbt2⟩ : ∃ bot : Int, Hid (bot = min (e + (j : Int) - 1 - y) 0) ∧ bot ≤ 0 ∧ bot ≤ e + (j : Int) - 1 - y ∧ -140000 ≤ bot := ⟨_, rfl, by omega, by omega, by omega⟩
                            go_upto_if 160 with fail
                            go_cut [22] from 144 to 160 (fun v wx => v = .int .i64 top ∧ w3 = wx)
                            case first =>
                              by_cases hh : e + (j : Int) - 1 - x < 0
                              · have hT := HT.out
                                go_wp2
                                go_meet
                                case rel => exact ⟨by rw [hT]; go_num, rfl⟩
                              · have hT := HT.out
                                go_wp2
                                go_meet
                                case rel => exact ⟨by rw [hT]; go_num, rfl⟩
                            case rest =>
                              obtain ⟨rfl, rfl⟩ := hcut
                              go_upto_if 163 with fail
                              go_cut [23] from 161 to 163 (fun v wx => v = .int .i64 bot ∧ w3 = wx)
                              case first =>
                                by_cases hh : 0 < e + (j : Int) - 1 - y
                                · have hT := HB.out
                                  go_wp2
                                  go_meet
                                  case rel => exact ⟨by rw [hT]; go_num, rfl⟩
                                · have hT := HB.out
                                  go_wp2
                                  go_meet
                                  case rel => exact ⟨by rw [hT]; go_num, rfl⟩
                              case rest =>
                                obtain ⟨rfl, rfl⟩ := hcut
                                obtain ⟨N2, hN1, hN2⟩ : ∃ N2 : Nat, (N2 : Int) ≤ top - bot + 3 ∧ top - bot + 3 ≤ (N2 : Int) := ⟨(top - bot + 3).toNat, by omega, by omega⟩
                                go_wp2_with (at_make; refine wpList_make_own _ rfl _ _ 26 rfl W0.heap.size 5 i0 (.int .u8 0) 1 Tryd.underlying26 hi hz0 hz1 .i64 .i64 _ N2 rfl rfl ?_ ?_ ?_ hb.size ?_)
                                · omega
                                · first | omega | (rw [hz2]; omega)
                                · unfold maxLen; omega
                                · intro w4 hown4 hgrow
                                  obtain ⟨g2, hg2⟩ : ∃ g2, g2 = w3.heap.size := ⟨_, rfl⟩
                                  rw [← hg2] at hown4 ⊢
                                  have hg1 := hown.lt W0.heap.size rfl
                                  rw [← hg2] at hg1
                                  have hg12 : W0.heap.size < g2 := hg1.2
                                  have hD4 := hown.kept hgrow (.inr (by simp [Value.ownBlock]))
                                  have hb4 : Below W0.heap.size W0 w4 := hb.grown hgrow hb.size (fun k h => by cases h)
                                  clear hg1 hg2 hgrow hown hb
                                  obtain ⟨pre, HP, hp1⟩ : ∃ pre : List UInt8, Hid (pre = if neg then [45] else []) ∧ pre.length ≤ 1 := ⟨_, rfl, by cases neg <;> simp⟩
                                  go_upto_if 169 with fail
                                  go_cut [24] from 164 to 172 (fun v wx => v = .slice (some ⟨g2, 0, none⟩) pre.length N2 ∧ wx.ownsRow W0.heap.size 5 1 (.slice (some ⟨g2, 0, none⟩) pre.length N2) pre.length (Bs pre) ∧
                                    wx.ownsRow W0.heap.size 5 1 (.slice (some ⟨W0.heap.size, 0, none⟩) (j + k) (j + k)) (j + k) (Bs D) ∧ Below W0.heap.size W0 wx)
                                  case first =>
                                    cases neg
                                    · have hpre : pre = [] := HP.out
                                      subst hpre
                                      go_wp2
                                      go_meet
                                      case rel => exact ⟨rfl, hown4, hD4, hb4⟩
                                    · have hpre : pre = [45] := HP.out
                                      subst hpre
                                      go_wp2_with (at_builtin; refine wpList_append_fits _ rfl _ _ 26 rfl W0.heap.size 5 i0 1 Tryd.underlying26 hi hz1 g2 0 N2 _ rfl (hown4.alloc _) ⟨w4.heap.size, 0, none⟩ 1 1 [bc 45] rfl rfl (one_new _ _) (bc_one _) (by omega) ?_)
                                      intro w5 hown5 hgrow
                                      have hb5 : Below W0.heap.size W0 w5 := (hb4.alloc hb4.size _).grown hgrow (by have := hb4.size; simp; omega) (fun k h => by cases h; omega)
                                      have hD5 := (hD4.alloc (.cells #[bc 45] 5)).kept hgrow (.inr (by simp [Value.ownBlock]; omega))
                                      clear hgrow hown4 hD4 hb4
                                      go_wp2
                                      go_meet
                                      case rel => exact ⟨rfl, hown5, hD5, hb5⟩
                                  case rest =>
                                    clear hown4 hD4 hb4
                                    obtain ⟨rfl, hown4, hD4, hb4⟩ := hcut
                                    rename World => w5
                                    obtain ⟨M, HM1, HM3⟩ : ∃ M : Nat, (M : Int) ≤ top - bot + 1 ∧ top - bot + 1 ≤ (M : Int) := ⟨(top - bot + 1).toNat, by omega, by omega⟩
                                    go_wp2_with fail
                                    go_loopw [24, 25] (fun v i wr => ∃ (m : Nat) (L : List UInt8), m ≤ M ∧ i = .int .i64 (top - m) ∧ v = .slice (some ⟨g2, 0, none⟩) L.length N2 ∧ Hid (L = pre ++ rend D (e + (j : Int) - 1) top m) ∧
                                        wr.ownsRow W0.heap.size 5 1 (.slice (some ⟨g2, 0, none⟩) L.length N2) L.length (Bs L) ∧ wr.ownsRow W0.heap.size 5 1 (.slice (some ⟨W0.heap.size, 0, none⟩) (j + k) (j + k)) (j + k) (Bs D) ∧ Below W0.heap.size W0 wr)
                                      (fun _ i _ => (intOf i - bot + 1).toNat)
                                    case atStart => exact ⟨0, pre, Nat.zero_le _, by go_num, rfl, by simp [rend, Hid], hown4, hD4, hb4⟩
                                    case round =>
                                      clear hown4 hD4 hb4
                                      obtain ⟨m, L, hm, rfl, rfl, HL, hown4, hD4, hb4⟩ := hrel
                                      by_cases hlt5 : m < M
                                      · have hLl : Hid (L.length = pre.length + (m + (if top + 1 < m then 1 else 0))) := by
                                          show _ = _
                                          rw [HL.out, List.length_append, rend_len _ _ _ ht0]
                                        have hLl1 : L.length ≤ m + 2 := by have := hLl.out; split at this <;> omega
                                        have hLl2 : top - (m : Int) = -1 → L.length ≤ m + 1 := by
                                          intro h; have := hLl.out; rw [if_neg (by omega)] at this; omega
                                        have HL2 : Hid (top - (m : Int) = -1 → L.length ≤ m + 1) := hLl2
                                        clear hLl hLl2
                                        obtain ⟨L1, HL1, hL1⟩ : ∃ L1, Hid (L1 = L ++ (if top - (m : Int) = -1 then [46] else [])) ∧ L1.length ≤ m + 2 := by
                                          refine ⟨_, rfl, ?_⟩
                                          rw [List.length_append]
                                          split
                                          · have := HL2.out ‹_›; simp; omega
                                          · simp; omega
                                        go_upto_if 180 with fail
                                        go_cut [24] from 174 to 204 (fun v wx => v = .slice (some ⟨g2, 0, none⟩) L1.length N2 ∧ wx.ownsRow W0.heap.size 5 1 (.slice (some ⟨g2, 0, none⟩) L1.length N2) L1.length (Bs L1) ∧
                                          wx.ownsRow W0.heap.size 5 1 (.slice (some ⟨W0.heap.size, 0, none⟩) (j + k) (j + k)) (j + k) (Bs D) ∧ Below W0.heap.size W0 wx)
                                        case first =>
                                          by_cases hpm : top - (m : Int) = -1
                                          · have hpB : (top - (m : Int) == -1) = true := beq_iff_eq.2 hpm
                                            have hll := HL2.out hpm
                                            have HL3 : L1 = L ++ [46] := by have h := HL1.out; rw [if_pos hpm] at h; exact h
                                            clear HL1
                                            subst HL3
                                            clear hpm
                                            go_wp2_with (at_builtin; refine wpList_append_fits _ rfl _ _ 26 rfl W0.heap.size 5 i0 1 Tryd.underlying26 hi hz1 g2 L.length N2 _ rfl (hown4.alloc _) ⟨wr.heap.size, 0, none⟩ 1 1 [bc 46] rfl rfl (one_new _ _) (bc_one _) (by omega) ?_)
                                            intro w6 hown6 hgrow
                                            rw [Bs_snoc] at hown6
                                            have hb6 : Below W0.heap.size W0 w6 := (hb4.alloc hb4.size _).grown hgrow (by have := hb4.size; simp; omega) (fun k h => by cases h; omega)
                                            have hD6 := (hD4.alloc (.cells #[bc 46] 5)).kept hgrow (.inr (by simp [Value.ownBlock]; omega))
                                            clear hgrow hown4 hD4 hb4
                                            go_wp2
                                            go_meet
                                            case rel => exact ⟨by simp, by simpa using hown6, hD6, hb6⟩
                                          · have hpB : (top - (m : Int) == -1) = false := beq_eq_false_iff_ne.2 hpm
                                            have HL3 : L1 = L := by have h := HL1.out; rw [if_neg hpm] at h; simpa using h
                                            clear HL1
                                            subst HL3
                                            clear hpm
                                            go_wp2
                                            go_meet
                                            case rel => exact ⟨rfl, hown4, hD4, hb4⟩
                                        case rest =>
                                          clear hown4 hD4 hb4
                                          obtain ⟨rfl, hown4, hD4, hb4⟩ := hcut
                                          rename World => w7
                                          obtain ⟨q, HQ, hq1, hq2⟩ : ∃ q : Int, Hid (q = e + (j : Int) - 1 - (top - m)) ∧ q ≤ e + (j : Int) - 1 - (top - m) ∧ e + (j : Int) - 1 - (top - m) ≤ q := ⟨_, rfl, Int.le_refl _, Int.le_refl _⟩
                                          go_upto_region 62 with fail
                                          go_cut [26] from 174 to 204 (fun v wx => v = .int .i64 q ∧ w7 = wx)
                                          case first =>
                                            go_wp2
                                            go_meet
                                            case rel => exact ⟨by go_num, rfl⟩
                                          case rest =>
                                            obtain ⟨rfl, rfl⟩ := hcut
                                            have HR : Hid (L1 ++ [dg D q] = pre ++ rend D (e + (j : Int) - 1) top (m + 1)) := by
                                              show _ = _
                                              rw [rend_snoc, HL1.out, HL.out, HQ.out]; simp
                                            by_cases hin1 : 0 ≤ q
                                            · by_cases hin2 : q < (j : Int) + k
                                              · obtain ⟨qn, rfl⟩ : ∃ qn : Nat, q = qn := ⟨q.toNat, by omega⟩
                                                have hcell := row_cell hD4 qn (by omega) (by omega)
                                                have hdg : dg D qn = D.getD qn 0 := by
                                                  rw [dg_in _ _ hin1]
                                                  simp only [Int.toNat_natCast, List.getD_eq_getElem?_getD]
                                                  rw [List.getElem?_eq_getElem (by omega)]; rfl
                                                rw [hdg] at HR
                                                clear hdg
                                                obtain ⟨c, hc⟩ : ∃ c, c = D.getD qn 0 := ⟨_, rfl⟩
                                                rw [← hc] at HR hcell
                                                clear hc
                                                go_wp2_with (at_builtin; refine wpList_append_fits _ rfl _ _ 26 rfl W0.heap.size 5 i0 1 Tryd.underlying26 hi hz1 g2 L1.length N2 _ rfl (hown4.alloc _) ⟨w7.heap.size, 0, none⟩ 1 1 [bc c] rfl rfl (one_new _ _) (bc_one _) (by omega) ?_)
                                                intro w6 hown6 hgrow
                                                rw [Bs_snoc] at hown6
                                                have hb6 : Below W0.heap.size W0 w6 := (hb4.alloc hb4.size _).grown hgrow (by have := hb4.size; simp; omega) (fun k h => by cases h; omega)
                                                have hD6 := (hD4.alloc (.cells #[bc c] 5)).kept hgrow (.inr (by simp [Value.ownBlock]; omega))
                                                clear hgrow hown4 hD4 hb4
                                                go_wp2
                                                go_roundw
                                                case rel => exact ⟨m + 1, L1 ++ [c], by omega, by go_num, by simp, HR, by simpa using hown6, hD6, hb6⟩
                                                case measure => simp [intOf]; omega
                                              · rw [dg_high D q (by omega)] at HR
                                                go_wp2_with (at_builtin; refine wpList_append_fits _ rfl _ _ 26 rfl W0.heap.size 5 i0 1 Tryd.underlying26 hi hz1 g2 L1.length N2 _ rfl (hown4.alloc _) ⟨w7.heap.size, 0, none⟩ 1 1 [bc 48] rfl rfl (one_new _ _) (bc_one _) (by omega) ?_)
                                                intro w6 hown6 hgrow
                                                rw [Bs_snoc] at hown6
                                                have hb6 : Below W0.heap.size W0 w6 := (hb4.alloc hb4.size _).grown hgrow (by have := hb4.size; simp; omega) (fun k h => by cases h; omega)
                                                have hD6 := (hD4.alloc (.cells #[bc 48] 5)).kept hgrow (.inr (by simp [Value.ownBlock]; omega))
                                                clear hgrow hown4 hD4 hb4
                                                go_wp2
                                                go_roundw
                                                case rel => exact ⟨m + 1, L1 ++ [48], by omega, by go_num, by simp, HR, by simpa using hown6, hD6, hb6⟩
                                                case measure => simp [intOf]; omega
                                            · rw [dg_low D q (by omega)] at HR
                                              go_wp2_with (at_builtin; refine wpList_append_fits _ rfl _ _ 26 rfl W0.heap.size 5 i0 1 Tryd.underlying26 hi hz1 g2 L1.length N2 _ rfl (hown4.alloc _) ⟨w7.heap.size, 0, none⟩ 1 1 [bc 48] rfl rfl (one_new _ _) (bc_one _) (by omega) ?_)
                                              intro w6 hown6 hgrow
                                              rw [Bs_snoc] at hown6
                                              have hb6 : Below W0.heap.size W0 w6 := (hb4.alloc hb4.size _).grown hgrow (by have := hb4.size; simp; omega) (fun k h => by cases h; omega)
                                              have hD6 := (hD4.alloc (.cells #[bc 48] 5)).kept hgrow (.inr (by simp [Value.ownBlock]; omega))
                                              clear hgrow hown4 hD4 hb4
                                              go_wp2
                                              go_roundw
                                              case rel => exact ⟨m + 1, L1 ++ [48], by omega, by go_num, by simp, HR, by simpa using hown6, hD6, hb6⟩
                                              case measure => simp [intOf]; omega
                                      · obtain rfl : m = M := by omega
                                        have HF : Hid (model s.data.toList e = (L, true)) := by
                                          have h := HM2.out
                                          unfold mbody at h
                                          rw [← HX.out.1, ← HX.out.2, if_neg (by omega), ← HT.out, ← HB.out, ← HP.out, show (top - bot + 1).toNat = m from by omega, ← HL.out] at h
                                          exact h
                                        have hconv := conv_row hown4
                                        go_wp2
                                        go_ret2
                                        exact ⟨ret_model HF.out, hb4⟩
end Go.Proofs.Qxb6601590aDoor
