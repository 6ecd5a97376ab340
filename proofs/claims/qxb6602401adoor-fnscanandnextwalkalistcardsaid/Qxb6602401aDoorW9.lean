import Derived.Test.Qxb6602401aDoorW8
namespace Go.Proofs.Qxb6602401aDoor
open Go.RowKit

set_option maxHeartbeats 1000000 in
set_option maxRecDepth 100000 in
theorem clone8b (ao : Option Addr) (n cap : Nat) (l : List UInt8) (w : World) (hrow : BRow w ao n l) (hn : n ≤ 1048576) :
    Calls Tryd.prog 8 #[.slice ao n cap] w fun e w' => ∃ ao', e = .returned (.slice ao' n n) ∧ BRow w' ao' n l ∧ Below w.heap.size w w' := by
  have hlv : Hid (l.length = n) := hrow.1
  have HRW : Hid (BRow w ao n l) := hrow
  clear hrow
  have heq := fun (w : World) (a : Option Addr) (n c : Nat) => Lib.run_eql_slice_nil (P := Tryd.prog) w 22 5 a n c 0 0 Tryd.underlying22
  cases ao with
  | none =>
    have h0 : n = 0 := by
      rcases HRW.out.2 with h | ⟨_, _, h, _⟩
      · exact h
      · cases h
    subst h0
    go_enter Tryd.func8, Tryd.ntmps8
    go_wp2
    go_ret
    exact ⟨none, rfl, ⟨hlv.out, .inl rfl⟩, Below.refl _ _⟩
  | some a =>
    have hmk := run_make_row' (P := Tryd.prog) 22 5 (.int .u8 0) 1 Tryd.underlying22 Tryd.info5 rfl .i64 .i64 n (by omega) (by omega)
    go_enter Tryd.func8, Tryd.ntmps8
    go_wp2_with fail
    have hvb := vbuf_made w (.int .u8 0) n 5
    have hbel : Below w.heap.size w (w.alloc (.cells (madeCells #[Value.int .u8 0] n) 5)) := (Below.refl _ _).alloc (Nat.le_refl _) _
    rw [half_zero l n] at hvb
    obtain ⟨w2, hw2⟩ : ∃ w2, w2 = w.alloc (.cells (madeCells #[Value.int .u8 0] n) 5) := ⟨_, rfl⟩
    rw [← hw2] at hvb hbel ⊢
    clear hw2
    go_loopw [4] (fun i wr => ∃ (k : Nat), k ≤ n ∧ i = .int .i64 k ∧ VBuf w.heap.size (half l n k) wr ∧ Below w.heap.size w wr) (fun i _ => n - (intOf i).toNat)
    case atStart => exact ⟨0, Nat.zero_le _, rfl, hvb, hbel⟩
    case round =>
      obtain ⟨k, hk, rfl, hv, hb⟩ := hrel
      by_cases hlt : k < n
      · obtain ⟨b, off, hao, hcell⟩ := BRow.at (BRow.later HRW.out hb) k hlt
        obtain rfl := Option.some.inj hao
        have hkl : k < (half l n k).length := by rw [half_len l n k hlv.out hk]; exact hlt
        have hold := (hv.2 k hkl).1
        have hfro := (hv.2 k hkl).2
        rw [List.getElem?_eq_getElem hkl] at hold
        have hv2 := hv.set k hkl (bc (l.getD k 0))
        rw [half_step l n k hlv.out hlt] at hv2
        have hb2 := hb.setCell (p := ⟨w.heap.size, k, none⟩) (Nat.le_refl _) (bc (l.getD k 0))
        obtain ⟨x, hx⟩ : ∃ x, x = l.getD k 0 := ⟨_, rfl⟩
        rw [← hx] at hcell hv2 hb2
        clear hx
        have HV2 : Hid _ := hv2
        have HB2 : Hid _ := hb2
        clear hv2 hb2 hv hb
        unfold bc at hcell
        go_wp2
        go_roundw
        case rel => exact ⟨k + 1, by omega, by go_num, HV2.out, HB2.out⟩
        case measure => simp [intOf]; omega
      · obtain rfl : k = n := by omega
        rw [half_all l k hlv.out] at hv
        have h1 := vbuf_row hv
        rw [hlv.out] at h1
        have H1 : Hid (BRow wr (some ⟨w.heap.size, 0, none⟩) k l) := h1
        clear h1 hv
        go_wp2
        go_ret
        exact ⟨_, rfl, H1.out, hb⟩

set_option maxRecDepth 100000 in
theorem law3 (ao : Option Addr) (n cap : Nat) (l : List UInt8) (mx : Int) (w : World) (hrow : BRow w ao n l) (hn : n ≤ 9223372036854775807) (hm : w.cell? ⟨0, 0, none⟩ = some (.int .i64 mx)) (hT : Lib.Utf8Tabs 1 2 w) :
    Calls Tryd.prog 3 #[.slice ao n cap] w fun e w' => e = .returned (.bool true) ∧ Below w.heap.size w w' := by
  have HRW : Hid (BRow w ao n l) := hrow
  have HM : Hid (w.cell? ⟨0, 0, none⟩ = some (.int .i64 mx)) := hm
  have HT : Hid (Lib.Utf8Tabs 1 2 w) := hT
  have h0 : 0 < w.heap.size := pos_of_cell hm
  clear hrow hm hT
  by_cases h : n ≤ 1048576
  · go_enter Tryd.func3, Tryd.ntmps3
    go_wp2_with fail
    refine (bytes7 ao n cap w hn).mono ?_
    rintro en w1 ⟨rfl, rfl⟩
    rw [decide_eq_true h]
    go_wp2_with fail
    refine (clone8b ao n cap l w1 HRW.out h).mono ?_
    rintro en w2 ⟨ao', rfl, hrow2, hb2⟩
    have HR2 : Hid (BRow w2 ao' n l) := hrow2
    clear hrow2 HRW
    go_wp2_with fail
    refine (zzscan9 ao' n n l mx w2 HR2.out h (Nat.le_refl _) (by omega) ((hb2.cell (p := ⟨0, 0, none⟩) h0).trans HM.out) (Utf8Tabs_below HT.out hb2)).mono ?_
    rintro en w3 ⟨rfl, hb3⟩
    have HR3 : Hid (BRow w3 ao' n l) := BRow.later HR2.out hb3
    have hb3' := hb2.trans (hb3.mono hb2.size)
    clear hb2 hb3 HR2
    obtain ⟨R, HR⟩ : ∃ R, Hid (R = auto l 0 0 0 0) := ⟨_, rfl⟩
    rw [← HR.out]
    obtain ⟨a, c⟩ := R
    go_wp2_with fail
    refine (model10 ao' n n l w3 HR3.out h).mono ?_
    rw [← HR.out]
    rintro en w4 ⟨rfl, hb4⟩
    have hb4' := hb3'.trans (hb4.mono hb3'.size)
    clear hb3' hb4
    go_wp2
    go_ret
    exact ⟨ret_bool (by simp), hb4'⟩
  · go_enter Tryd.func3, Tryd.ntmps3
    go_wp2_with fail
    refine (bytes7 ao n cap w hn).mono ?_
    rintro en w1 ⟨rfl, rfl⟩
    rw [decide_eq_false h]
    go_wp2
    go_ret
    exact ⟨rfl, Below.refl _ _⟩
end Go.Proofs.Qxb6602401aDoor
