import Derived.Test.Qxb6602401aDoorPl4
namespace Go.Proofs.Qxb6602401aDoor
open Go.RowKit

theorem scan21_zero (ao : Option Addr) (cap : Nat) (w : World) :
    Calls Tryd.prog 21 #[.slice ao 0 cap] w fun e w' => e = .returned (.tuple #[.int .i64 0, .int .i64 0]) ∧ w' = w := by
  go_enter Tryd.func21, Tryd.ntmps21
  go_wp2_with fail
  go_loop [3, 5] (fun v3 v5 => v3 = .int .i64 0 ∧ v5 = .int .i64 0) (fun _ _ => 0)
  case atStart => exact ⟨rfl, rfl⟩
  case round =>
    obtain ⟨rfl, rfl⟩ := hrel
    go_wp2
    exact bodyPost_ret (v := .tuple #[.int .i64 0, .int .i64 0]) (by simp [results, Tryd.results21, go_sem]) rfl ⟨rfl, rfl⟩

theorem scan21 (ao : Option Addr) (n cap : Nat) (l : List UInt8) (mx : Int) (w : World) (hrow : BRow w ao n l) (hn : n ≤ 1048576) (hcap : n ≤ cap) (hcap2 : cap ≤ 9223372036854775807)
    (hm : w.cell? ⟨0, 0, none⟩ = some (.int .i64 mx)) (hT : Lib.Utf8Tabs 1 2 w) :
    Calls Tryd.prog 21 #[.slice ao n cap] w fun e w' => e = .returned (.tuple #[.int .i64 ((auto l 0 0 0 0).1 : Int), .int .i64 (auto l 0 0 0 0).2]) ∧ Below w.heap.size w w' := by
  obtain ⟨hl, hr⟩ := hrow
  by_cases h0 : n = 0
  · subst h0
    have : l = [] := List.eq_nil_of_length_eq_zero hl
    subst this
    refine (scan21_zero ao cap w).mono ?_
    rintro e w' ⟨rfl, rfl⟩
    exact ⟨rfl, Below.refl _ _⟩
  · rcases hr with h | ⟨b, off, rfl, hbl, hc⟩
    · exact absurd h h0
    · exact scan21_some b off n cap l mx w hbl hc hl hn hcap hcap2 hm hT

set_option maxRecDepth 100000 in
theorem zzscan9 (ao : Option Addr) (n cap : Nat) (l : List UInt8) (mx : Int) (w : World) (hrow : BRow w ao n l) (hn : n ≤ 1048576) (hcap : n ≤ cap) (hcap2 : cap ≤ 9223372036854775807)
    (hm : w.cell? ⟨0, 0, none⟩ = some (.int .i64 mx)) (hT : Lib.Utf8Tabs 1 2 w) :
    Calls Tryd.prog 9 #[.slice ao n cap] w fun e w' => e = .returned (.tuple #[.int .i64 ((auto l 0 0 0 0).1 : Int), .int .i64 (auto l 0 0 0 0).2]) ∧ Below w.heap.size w w' := by
  have HS : Hid (Calls Tryd.prog 21 #[.slice ao n cap] w fun e w' => e = .returned (.tuple #[.int .i64 ((auto l 0 0 0 0).1 : Int), .int .i64 (auto l 0 0 0 0).2]) ∧ Below w.heap.size w w') := scan21 ao n cap l mx w hrow hn hcap hcap2 hm hT
  clear hrow hm hT
  obtain ⟨R, HR⟩ : ∃ R, Hid (R = auto l 0 0 0 0) := ⟨_, rfl⟩
  rw [← HR.out] at HS ⊢
  obtain ⟨a, c⟩ := R
  go_enter Tryd.func9, Tryd.ntmps9
  go_wp2_with fail
  refine Calls.mono HS.out ?_
  rintro en w1 ⟨rfl, hb⟩
  go_wp2
  exact bodyPost_ret (v := .tuple #[.int .i64 (a : Int), .int .i64 c]) (by simp [results, Tryd.results9, go_sem]) rfl ⟨rfl, hb⟩

def rv (l : List UInt8) (k : Nat) : Value := .int .u8 (rol l k)
/-- the roles of the first k bytes, zeros behind -/
def RH (l : List UInt8) (n k : Nat) : List Value := (List.range n).map fun j => if j < k then rv l j else .int .u8 0
theorem RH_len (l : List UInt8) (n k : Nat) : (RH l n k).length = n := by simp [RH]
theorem RH_get (l : List UInt8) (n k j : Nat) (h : j < n) : (RH l n k)[j]? = some (if j < k then rv l j else .int .u8 0) := by simp [RH, h]
theorem RH_zero (l : List UInt8) (n : Nat) : List.replicate n (.int .u8 0) = RH l n 0 := by
  apply List.ext_getElem?
  intro i
  by_cases h : i < n
  · rw [RH_get l n 0 i h]; simp [h]
  · rw [List.getElem?_eq_none (by simp; omega), List.getElem?_eq_none (by rw [RH_len]; omega)]
theorem RH_set (l : List UInt8) (n k : Nat) (h : k < n) : (RH l n k).set k (rv l k) = RH l n (k + 1) := by
  apply List.ext_getElem?
  intro i
  by_cases hi : i < n
  · rw [RH_get l n (k + 1) i hi]
    by_cases e : k = i
    · subst e
      rw [List.getElem?_set_self (by rw [RH_len]; exact h), if_pos (by omega)]
    · rw [List.getElem?_set_ne e, RH_get l n k i hi]
      by_cases h2 : i < k
      · rw [if_pos h2, if_pos (by omega)]
      · rw [if_neg h2, if_neg (by omega)]
  · rw [List.getElem?_eq_none (by rw [List.length_set, RH_len]; omega), List.getElem?_eq_none (by rw [RH_len]; omega)]
theorem RH_skip (l : List UInt8) (n k : Nat) (h : rol l k = 0) : RH l n (k + 1) = RH l n k := by
  unfold RH
  apply List.map_congr_left
  intro j _
  by_cases h1 : j < k
  · rw [if_pos h1, if_pos (by omega)]
  · by_cases h2 : j = k
    · subst h2
      rw [if_pos (by omega), if_neg h1]
      unfold rv
      rw [h]
      rfl
    · rw [if_neg h1, if_neg (by omega)]

theorem rol_step (l : List UInt8) (k : Nat) : stt l (k + 1) = nxt (stt l k) (l.getD k 0) ∧ rol l k = rl (stt l k) (l.getD k 0) := ⟨rfl, rfl⟩

set_option maxHeartbeats 4000000 in
set_option maxRecDepth 100000 in
theorem roles22 (ao : Option Addr) (n cap : Nat) (l : List UInt8) (w : World) (hrow : BRow w ao n l) (hn : n ≤ 1048576) :
    Calls Tryd.prog 22 #[.slice ao n cap] w fun e w' => e = .returned (.slice (some ⟨w.heap.size, 0, none⟩) n n) ∧ VBuf w.heap.size (RH l n n) w' ∧ Below w.heap.size w w' := by
  have HRW : Hid (BRow w ao n l) := hrow
  clear hrow
  have hmk := run_make_row' (P := Tryd.prog) 22 5 (.int .u8 0) 1 Tryd.underlying22 Tryd.info5 rfl .i64 .i64 n (by omega) (by omega)
  go_enter Tryd.func22, Tryd.ntmps22
  go_wp2_with fail
  have hvb := vbuf_made w (.int .u8 0) n 5
  have hbel : Below w.heap.size w (w.alloc (.cells (madeCells #[Value.int .u8 0] n) 5)) := (Below.refl _ _).alloc (Nat.le_refl _) _
  rw [RH_zero l n] at hvb
  obtain ⟨w2, hw2⟩ : ∃ w2, w2 = w.alloc (.cells (madeCells #[Value.int .u8 0] n) 5) := ⟨_, rfl⟩
  rw [← hw2] at hvb hbel ⊢
  clear hw2
  go_loopw [4, 5, 6] (fun v4 v5 v6 wr => ∃ (k : Nat), k ≤ n ∧ v6 = .int .i64 k ∧ v4 = .bool (decide (stt l k ≠ 0)) ∧ v5 = .bool (decide (stt l k = 2)) ∧ Hid (VBuf w.heap.size (RH l n k) wr) ∧ Below w.heap.size w wr) (fun _ _ v6 _ => n - (intOf v6).toNat)
  case atStart => exact ⟨0, Nat.zero_le _, rfl, rfl, rfl, hvb, hbel⟩
  case round =>
    clear hvb hbel
    obtain ⟨k, hk, rfl, rfl, rfl, HV, hb⟩ := hrel
    by_cases hlt : k < n
    · obtain ⟨b, off, hao, hcell⟩ := BRow.at (BRow.later HRW.out hb) k hlt
      subst hao
      have hkl : k < (RH l n k).length := by rw [RH_len]; exact hlt
      have hold := (HV.out.2 k hkl).1
      have hfro := (HV.out.2 k hkl).2
      rw [List.getElem?_eq_getElem hkl] at hold
      have hset := VBuf.set HV.out k hkl (rv l k)
      rw [RH_set l n k hlt] at hset
      have hbs := hb.setCell (p := ⟨w.heap.size, k, none⟩) (Nat.le_refl _) (rv l k)
      have hskip := RH_skip l n k
      obtain ⟨es, er⟩ := rol_step l k
      have hle := stt_le l k
      unfold rv at hset hbs
      obtain ⟨c, hc⟩ : ∃ c, c = l.getD k 0 := ⟨_, rfl⟩
      rw [← hc] at hcell es er
      unfold bc at hcell
      clear hc
      rcases (by omega : stt l k = 0 ∨ stt l k = 1 ∨ stt l k = 2) with hs | hs | hs
      · rw [hs] at es er ⊢
        by_cases h34 : c = 34
        · subst h34
          have e1 : stt l (k + 1) = 1 := es
          have e2 : rol l k = 1 := er
          rw [e2] at hset hbs
          have HV2 : Hid (VBuf w.heap.size (RH l n (k + 1)) _) := hset
          have HB2 : Hid _ := hbs
          clear hset hbs hskip HV hb
          go_wp2
          go_roundw
          case rel => exact ⟨k + 1, hlt, by go_num, by simp [e1], by simp [e1], HV2, HB2.out⟩
          case measure => simp [intOf]; omega
        · have hcB : ((c.toNat : Int) == 34) = false := u8_lit c 34 (by decide) h34
          have e1 : stt l (k + 1) = 0 := by rw [es]; simp [nxt, h34]
          have e2 : rol l k = 0 := by rw [er]; simp [rl, h34]
          have HV2 : Hid (VBuf w.heap.size (RH l n (k + 1)) wr) := by rw [hskip e2]; exact HV
          clear hset hbs hskip HV h34
          go_wp2
          go_roundw
          case rel => exact ⟨k + 1, hlt, by go_num, by simp [e1], by simp [e1], HV2, hb⟩
          case measure => simp [intOf]; omega
      · rw [hs] at es er ⊢
        by_cases h92 : c = 92
        · subst h92
          have e1 : stt l (k + 1) = 2 := es
          have e2 : rol l k = 2 := er
          rw [e2] at hset hbs
          have HV2 : Hid (VBuf w.heap.size (RH l n (k + 1)) _) := hset
          have HB2 : Hid _ := hbs
          clear hset hbs hskip HV hb
          go_wp2
          go_roundw
          case rel => exact ⟨k + 1, hlt, by go_num, by simp [e1], by simp [e1], HV2, HB2.out⟩
          case measure => simp [intOf]; omega
        · have hcB1 : ((c.toNat : Int) == 92) = false := u8_lit c 92 (by decide) h92
          by_cases h34 : c = 34
          · subst h34
            have e1 : stt l (k + 1) = 0 := es
            have e2 : rol l k = 3 := er
            rw [e2] at hset hbs
            have HV2 : Hid (VBuf w.heap.size (RH l n (k + 1)) _) := hset
            have HB2 : Hid _ := hbs
            clear hset hbs hskip HV hb
            go_wp2
            go_roundw
            case rel => exact ⟨k + 1, hlt, by go_num, by simp [e1], by simp [e1], HV2, HB2.out⟩
            case measure => simp [intOf]; omega
          · have hcB : ((c.toNat : Int) == 34) = false := u8_lit c 34 (by decide) h34
            have e1 : stt l (k + 1) = 1 := by rw [es]; simp [nxt, h34, h92]
            have e2 : rol l k = 2 := by rw [er]; simp [rl, h34, h92]
            rw [e2] at hset hbs
            have HV2 : Hid (VBuf w.heap.size (RH l n (k + 1)) _) := hset
            have HB2 : Hid _ := hbs
            clear hset hbs hskip HV hb h34 h92
            go_wp2
            go_roundw
            case rel => exact ⟨k + 1, hlt, by go_num, by simp [e1], by simp [e1], HV2, HB2.out⟩
            case measure => simp [intOf]; omega
      · rw [hs] at es er ⊢
        have e1 : stt l (k + 1) = 1 := es
        have e2 : rol l k = 2 := er
        rw [e2] at hset hbs
        have HV2 : Hid (VBuf w.heap.size (RH l n (k + 1)) _) := hset
        have HB2 : Hid _ := hbs
        clear hset hbs hskip HV hb
        go_wp2
        go_roundw
        case rel => exact ⟨k + 1, hlt, by go_num, by simp [e1], by simp [e1], HV2, HB2.out⟩
        case measure => simp [intOf]; omega
    · obtain rfl : k = n := by omega
      go_wp2
      go_ret
      exact ⟨rfl, HV.out, hb⟩
end Go.Proofs.Qxb6602401aDoor
