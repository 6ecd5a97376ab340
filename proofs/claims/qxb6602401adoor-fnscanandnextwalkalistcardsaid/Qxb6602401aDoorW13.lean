import Derived.Test.Qxb6602401aDoorW12
namespace Go.Proofs.Qxb6602401aDoor
open Go.RowKit

def Whole (x : List UInt8) : Prop := ∃ c t, x = c :: t ∧ isSp c = false ∧ isCl c = false ∧ (auto x 0 0 0 0).1 = x.length ∧ (auto (x ++ [44]) 0 0 0 0).1 = x.length

set_option maxHeartbeats 4000000 in
set_option maxRecDepth 100000 in
theorem whole16 (x : List UInt8) (mx : Int) (w : World) (hx : x.length + 1 ≤ 1048576) (hm : w.cell? ⟨0, 0, none⟩ = some (.int .i64 mx)) (hT : Lib.Utf8Tabs 1 2 w) :
    Calls Tryd.prog 16 #[.string ⟨x.toArray⟩] w fun e w' => ∃ r, e = .returned (.bool r) ∧ (r = true → Whole x) ∧ Below w.heap.size w w' := by
  have HM : Hid (w.cell? ⟨0, 0, none⟩ = some (.int .i64 mx)) := hm
  have HT : Hid (Lib.Utf8Tabs 1 2 w) := hT
  have h0 : 0 < w.heap.size := pos_of_cell hm
  clear hm hT
  cases hxx : x with
  | nil =>
    go_enter Tryd.func16, Tryd.ntmps16
    go_wp2
    go_ret
    exact ⟨false, rfl, fun h => by simp at h, Below.refl _ _⟩
  | cons c t =>
    rw [← hxx]
    have hl1 : 1 ≤ x.length := by rw [hxx]; simp
    have hix0 : ∀ w : World, (Instr.index 9 (.string ⟨x.toArray⟩) (.int .i64 0)).run Tryd.prog w = .ok (.int .u8 c.toNat) w := by
      have h := ix_str x 0 (by omega)
      rw [show x.getD 0 0 = c from by rw [hxx]; rfl] at h
      exact h
    have hlB : ((x.length : Int) == 0) = false := beq_eq_false_iff_ne.2 (by omega)
    have HXX : Hid (x = c :: t) := hxx
    clear hxx
    cases hsp : isSp c
    · cases hcl : isCl c
      · have hmk := run_make_row' (P := Tryd.prog) 22 5 (.int .u8 0) 1 Tryd.underlying22 Tryd.info5 rfl .i64 .i64 x.length (by omega) (by omega)
        have hmk2 : ∀ w : World, (Instr.makeSlice 22 (.int .i64 ((x.length : Int) + 1)) (.int .i64 ((x.length : Int) + 1))).run Tryd.prog w = .ok (.slice (some ⟨w.heap.size, 0, none⟩) (x.length + 1) (x.length + 1)) (w.alloc (.cells (madeCells #[.int .u8 0] (x.length + 1)) 5)) := run_make_row' (P := Tryd.prog) 22 5 (.int .u8 0) 1 Tryd.underlying22 Tryd.info5 rfl .i64 .i64 (x.length + 1) (by omega) (by omega)
        go_enter Tryd.func16, Tryd.ntmps16
        go_wp2_with fail
        refine (space15 c _).mono ?_
        rintro en0 w0 ⟨rfl, rfl⟩
        rw [hsp]
        go_wp2_with fail
        refine (close24 c _).mono ?_
        rintro en1 w1 ⟨rfl, rfl⟩
        rw [hcl]
        clear hix0
        go_upto_block 0 with fail
        have hvb := vbuf_made w1 (.int .u8 0) x.length 5
        have hbel : Below w1.heap.size w1 (w1.alloc (.cells (madeCells #[Value.int .u8 0] x.length) 5)) := (Below.refl _ _).alloc (Nat.le_refl _) _
        rw [LayB_nil] at hvb
        obtain ⟨w2, hw2⟩ : ∃ w2, w2 = w1.alloc (.cells (madeCells #[Value.int .u8 0] x.length) 5) := ⟨_, rfl⟩
        rw [← hw2] at hvb hbel ⊢
        clear hw2
        have HVB : Hid (VBuf w1.heap.size (LayB [] x.length) w2) := hvb
        clear hvb
        go_cut [4] from 25 to 36 (fun _v wx => Hid (VBuf w1.heap.size (LayB x x.length) wx) ∧ Below w1.heap.size w1 wx)
        case first =>
          as_aux_lemma =>
            go_wp2_with fail
            go_loopw [4] (fun v4 wr => ∃ k : Nat, k ≤ x.length ∧ v4 = .int .i64 k ∧ Hid (VBuf w1.heap.size (LayB (x.take k) x.length) wr) ∧ Below w1.heap.size w1 wr) (fun v4 _ => x.length - (intOf v4).toNat)
            case atStart => exact ⟨0, Nat.zero_le _, rfl, HVB, hbel⟩
            case round =>
              clear HVB hbel
              obtain ⟨k, hk, rfl, HV, hbw⟩ := hrel
              by_cases hlt : k < x.length
              · have hix := ix_str x k hlt
                have hpl : (x.take k).length = k := by simp; omega
                have hkl : k < (LayB (x.take k) x.length).length := by rw [LayB_len _ _ (by omega)]; omega
                have hold := (HV.out.2 _ hkl).1
                have hfro := (HV.out.2 _ hkl).2
                rw [List.getElem?_eq_getElem hkl] at hold
                have hset := VBuf.set HV.out _ hkl (bc (x.getD k 0))
                have hput := LayB_put (x.take k) x.length (x.getD k 0) (by omega)
                rw [hpl] at hput
                rw [hput, show x.take k ++ [x.getD k 0] = x.take (k + 1) from by rw [List.take_succ_eq_append_getElem hlt]; simp [hlt]] at hset
                have hbs := hbw.setCell (p := ⟨w1.heap.size, k, none⟩) (Nat.le_refl _) (bc (x.getD k 0))
                obtain ⟨c2, hc⟩ : ∃ c2, c2 = x.getD k 0 := ⟨_, rfl⟩
                rw [← hc] at hix hset hbs
                unfold bc at hset hbs
                have HV2 : Hid (VBuf w1.heap.size (LayB (x.take (k + 1)) x.length) (wr.setCell ⟨w1.heap.size, k, none⟩ (.int .u8 c2.toNat))) := hset
                have HB2 : Hid (Below w1.heap.size w1 (wr.setCell ⟨w1.heap.size, k, none⟩ (.int .u8 c2.toNat))) := hbs
                clear hc hset hbs hput HV hbw
                go_wp2
                go_roundw
                case rel => exact ⟨k + 1, hlt, by go_num, HV2, HB2.out⟩
                case measure => simp [intOf]; omega
              · obtain rfl : k = x.length := by omega
                rw [List.take_of_length_le (Nat.le_refl _)] at HV
                go_wp2
                go_meet
                case rel => exact ⟨HV, hbw⟩
        case rest =>
          clear HVB hbel
          obtain ⟨HVB, hb3⟩ := hcut
          rename World => w3
          have HR3 : Hid (BRow w3 (some ⟨w1.heap.size, 0, none⟩) x.length x) := by
            have h := HVB.out
            rw [LayB_all] at h
            exact vbuf_row h
          clear HVB
          obtain ⟨R1, HR1⟩ : ∃ R1, Hid (R1 = auto x 0 0 0 0) := ⟨_, rfl⟩
          have HSC : Hid (Calls Tryd.prog 9 #[.slice (some ⟨w1.heap.size, 0, none⟩) x.length x.length] w3 fun e w' => e = .returned (.tuple #[.int .i64 (R1.1 : Int), .int .i64 R1.2]) ∧ Below w3.heap.size w3 w') := by
            rw [HR1.out]
            exact zzscan9 _ x.length x.length x mx w3 HR3.out (by omega) (Nat.le_refl _) (by omega) ((hb3.cell (p := ⟨0, 0, none⟩) h0).trans HM.out) (Utf8Tabs_below HT.out hb3)
          obtain ⟨a1, d1⟩ := R1
          go_wp2_with fail
          refine Calls.mono HSC.out ?_
          rintro en2 w4 ⟨rfl, hb4⟩
          have hb4' := hb3.trans (hb4.mono hb3.size)
          clear HSC HR3 hb3 hb4
          by_cases ha1 : a1 = x.length
          · have HA1 : Hid ((auto x 0 0 0 0).1 = x.length) := by rw [← HR1.out]; exact ha1
            subst ha1
            go_upto_block 2 with fail
            have hvb := vbuf_made w4 (.int .u8 0) (x.length + 1) 5
            have hbel : Below w4.heap.size w4 (w4.alloc (.cells (madeCells #[Value.int .u8 0] (x.length + 1)) 5)) := (Below.refl _ _).alloc (Nat.le_refl _) _
            rw [LayB_nil] at hvb
            obtain ⟨w5, hw5⟩ : ∃ w5, w5 = w4.alloc (.cells (madeCells #[Value.int .u8 0] (x.length + 1)) 5) := ⟨_, rfl⟩
            rw [← hw5] at hvb hbel ⊢
            clear hw5
            have HVB : Hid (VBuf w4.heap.size (LayB [] (x.length + 1)) w5) := hvb
            clear hvb
            go_cut [8] from 50 to 61 (fun _v wx => Hid (VBuf w4.heap.size (LayB x (x.length + 1)) wx) ∧ Below w4.heap.size w4 wx)
            case first =>
              as_aux_lemma =>
                go_wp2_with fail
                go_loopw [8] (fun v4 wr => ∃ k : Nat, k ≤ x.length ∧ v4 = .int .i64 k ∧ Hid (VBuf w4.heap.size (LayB (x.take k) (x.length + 1)) wr) ∧ Below w4.heap.size w4 wr) (fun v4 _ => x.length - (intOf v4).toNat)
                case atStart => exact ⟨0, Nat.zero_le _, rfl, HVB, hbel⟩
                case round =>
                  clear HVB hbel
                  obtain ⟨k, hk, rfl, HV, hbw⟩ := hrel
                  by_cases hlt : k < x.length
                  · have hix := ix_str x k hlt
                    have hpl : (x.take k).length = k := by simp; omega
                    have hkl : k < (LayB (x.take k) (x.length + 1)).length := by rw [LayB_len _ _ (by omega)]; omega
                    have hold := (HV.out.2 _ hkl).1
                    have hfro := (HV.out.2 _ hkl).2
                    rw [List.getElem?_eq_getElem hkl] at hold
                    have hset := VBuf.set HV.out _ hkl (bc (x.getD k 0))
                    have hput := LayB_put (x.take k) (x.length + 1) (x.getD k 0) (by omega)
                    rw [hpl] at hput
                    rw [hput, show x.take k ++ [x.getD k 0] = x.take (k + 1) from by rw [List.take_succ_eq_append_getElem hlt]; simp [hlt]] at hset
                    have hbs := hbw.setCell (p := ⟨w4.heap.size, k, none⟩) (Nat.le_refl _) (bc (x.getD k 0))
                    obtain ⟨c2, hc⟩ : ∃ c2, c2 = x.getD k 0 := ⟨_, rfl⟩
                    rw [← hc] at hix hset hbs
                    unfold bc at hset hbs
                    have HV2 : Hid (VBuf w4.heap.size (LayB (x.take (k + 1)) (x.length + 1)) (wr.setCell ⟨w4.heap.size, k, none⟩ (.int .u8 c2.toNat))) := hset
                    have HB2 : Hid (Below w4.heap.size w4 (wr.setCell ⟨w4.heap.size, k, none⟩ (.int .u8 c2.toNat))) := hbs
                    clear hc hset hbs hput HV hbw
                    go_wp2
                    go_roundw
                    case rel => exact ⟨k + 1, hlt, by go_num, HV2, HB2.out⟩
                    case measure => simp [intOf]; omega
                  · obtain rfl : k = x.length := by omega
                    rw [List.take_of_length_le (Nat.le_refl _)] at HV
                    go_wp2
                    go_meet
                    case rel => exact ⟨HV, hbw⟩
            case rest =>
              clear HVB hbel
              obtain ⟨HVB, hb6⟩ := hcut
              rename World => w6
              have hkl : x.length < (LayB x (x.length + 1)).length := by rw [LayB_len _ _ (by omega)]; omega
              have hold := (HVB.out.2 _ hkl).1
              have hfro := (HVB.out.2 _ hkl).2
              rw [List.getElem?_eq_getElem hkl] at hold
              have hset := VBuf.set HVB.out _ hkl (bc 44)
              rw [LayB_put x (x.length + 1) 44 (by omega), show x.length + 1 = (x ++ [(44 : UInt8)]).length from by simp, LayB_all] at hset
              have hbs := hb6.setCell (p := ⟨w4.heap.size, x.length, none⟩) (Nat.le_refl _) (bc 44)
              have hb7 := hb4'.trans (hbs.mono hb4'.size)
              have hrow := vbuf_row hset
              rw [show (x ++ [(44 : UInt8)]).length = x.length + 1 from by simp] at hrow
              unfold bc at hrow hb7
              obtain ⟨X, hX⟩ : ∃ X : List UInt8, X = x ++ [(44 : UInt8)] := ⟨_, rfl⟩
              obtain ⟨R2, HR2⟩ : ∃ R2, Hid (R2 = auto X 0 0 0 0) := ⟨_, rfl⟩
              rw [← hX] at hrow
              obtain ⟨w7, hw7⟩ : ∃ w7, w7 = w6.setCell ⟨w4.heap.size, x.length, none⟩ (.int .u8 ((44 : UInt8).toNat : Int)) := ⟨_, rfl⟩
              rw [← hw7] at hrow hb7
              have HSC : Hid (Calls Tryd.prog 9 #[.slice (some ⟨w4.heap.size, 0, none⟩) (x.length + 1) (x.length + 1)] w7 fun e w' => e = .returned (.tuple #[.int .i64 (R2.1 : Int), .int .i64 R2.2]) ∧ Below w7.heap.size w7 w') := by
                rw [HR2.out]
                exact zzscan9 _ (x.length + 1) (x.length + 1) X mx w7 hrow (by omega) (Nat.le_refl _) (by omega) ((hb7.cell (p := ⟨0, 0, none⟩) h0).trans HM.out) (Utf8Tabs_below HT.out hb7)
              rw [hw7] at HSC hb7
              have HB7 : Hid (Below w1.heap.size w1 (w6.setCell ⟨w4.heap.size, x.length, none⟩ (.int .u8 ((44 : UInt8).toNat : Int)))) := hb7
              obtain ⟨a2, d2⟩ := R2
              clear hset hbs hb7 hrow hw7 HVB hb6 hb4'
              go_wp2_with fail
              refine Calls.mono HSC.out ?_
              rintro en3 w8 ⟨rfl, hb8⟩
              have hb9 := HB7.out.trans (hb8.mono HB7.out.size)
              go_wp2
              go_ret
              refine ⟨_, rfl, fun h => ?_, hb9⟩
              refine ⟨c, t, HXX.out, hsp, hcl, HA1.out, ?_⟩
              rw [← hX, ← HR2.out]
              have h2 : (a2 : Int) = (x.length : Int) := by simpa using h
              exact Int.ofNat.inj h2
          · have haB : ((a1 : Int) != (x.length : Int)) = true := by rw [bne_iff_ne]; omega
            go_wp2
            go_ret
            exact ⟨false, rfl, fun h => by simp at h, hb4'⟩
      · go_enter Tryd.func16, Tryd.ntmps16
        go_wp2_with fail
        refine (space15 c _).mono ?_
        rintro en0 w0 ⟨rfl, rfl⟩
        rw [hsp]
        go_wp2_with fail
        refine (close24 c _).mono ?_
        rintro en1 w1 ⟨rfl, rfl⟩
        rw [hcl]
        go_wp2
        go_ret
        exact ⟨false, rfl, fun h => by simp at h, Below.refl _ _⟩
    · go_enter Tryd.func16, Tryd.ntmps16
      go_wp2_with fail
      refine (space15 c _).mono ?_
      rintro en0 w0 ⟨rfl, rfl⟩
      rw [hsp]
      go_wp2
      go_ret
      exact ⟨false, rfl, fun h => by simp at h, Below.refl _ _⟩
end Go.Proofs.Qxb6602401aDoor
