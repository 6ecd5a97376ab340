import Derived.Test.Qxb6602401aDoorW2
namespace Go.Proofs.Qxb6602401aDoor
open Go.RowKit

theorem pos_of_cell {w : World} {a : Addr} {v : Value} (h : w.cell? a = some v) : a.block < w.heap.size := by
  by_cases hlt : a.block < w.heap.size
  · exact hlt
  · exfalso
    have h0 : w.heap[a.block]? = none := Array.getElem?_eq_none (by omega)
    simp [World.cell?, h0] at h

theorem dr_get (l : List UInt8) (i j : Nat) : ((⟨(l.drop i).toArray⟩ : ByteArray).get! j) = l.getD (i + j) 0 := by
  rw [← getx]
  show (l.drop i).getD j 0 = _
  rw [List.getD_eq_getElem?_getD, List.getD_eq_getElem?_getD, List.getElem?_drop]

set_option maxRecDepth 100000 in
theorem should34 (n : Nat) (w : World) : Calls Tryd.prog 34 #[.int .i64 n] w fun e w' => e = .returned (.bool (decide ((8 : Int) < (n : Int)))) ∧ w' = w := by
  go_enter Tryd.func34, Tryd.ntmps34
  go_wp2
  go_ret
  exact ⟨ret_bool (by simp), rfl⟩

set_option maxHeartbeats 4000000 in
set_option maxRecDepth 100000 in
theorem any29_mid (b off n cap : Nat) (l : List UInt8) (m : Int) (w : World) (hbl : b < w.heap.size) (hc : ∀ i, i < n → w.cell? ⟨b, off + i, none⟩ = some (bc (l.getD i 0))) (hl : l.length = n) (h2 : 2 ≤ n) (h8 : n ≤ 8) (hcap : n ≤ cap)
    (hm : w.cell? ⟨0, 0, none⟩ = some (.int .i64 m)) (hT : Lib.Utf8Tabs 1 2 w) :
    Calls Tryd.prog 29 #[.slice (some ⟨b, off, none⟩) n cap, .string ⟨CH.toArray⟩] w fun e w' => e = .returned (.int .i64 (fz l)) ∧ Below w.heap.size w w' := by
  obtain ⟨C, HC⟩ : ∃ C : ByteArray, Hid (C = ⟨CH.toArray⟩) := ⟨_, rfl⟩
  have hCd : Hid (C.data.toList = CH) := by rw [HC.out]; exact rfl
  have hC8 : C.size = 8 := by rw [HC.out]; rfl
  have hCs1 : C.size ≤ 8 := by omega
  have hCs2 : 8 ≤ C.size := by omega
  clear hC8
  rw [← HC.out]
  have hemp : C.toList.isEmpty = false := by rw [Lib.toList_data, hCd.out]; rfl
  obtain ⟨r0, HR⟩ : ∃ r0, Hid (r0 = fz l) := ⟨_, rfl⟩
  rw [← HR.out]
  have HCE : Hid (∀ i, i < n → w.cell? ⟨b, off + i, none⟩ = some (bc (l.getD i 0))) := hc
  have HM : Hid (w.cell? ⟨0, 0, none⟩ = some (.int .i64 m)) := hm
  have HT : Hid (Lib.Utf8Tabs 1 2 w) := hT
  have h0 : 0 < w.heap.size := pos_of_cell hm
  have HL : Hid (l.length = n) := hl
  have hn1 : ((n : Int) == 1) = false := beq_eq_false_iff_ne.2 (by omega)
  have hC1 : ((C.size : Int) == 1) = false := beq_eq_false_iff_ne.2 (by omega)
  have h8z : decide ((8 : Int) < (n : Int)) = false := decide_eq_false (by omega)
  clear hc hm hT hl
  go_enter Tryd.func29, Tryd.ntmps29
  go_wp2_with fail
  refine (should34 n w).mono ?_
  rintro en w1 ⟨rfl, rfl⟩
  rw [h8z]
  go_wp2_with fail
  go_loopw [11, 12] (fun _v y wr => ∃ (i : Nat), i ≤ n ∧ y = .int .i64 i ∧ Hid (∀ j, j < i → isDl (l.getD j 0) = false) ∧ Below w1.heap.size w1 wr) (fun _v y _ => n - (intOf y).toNat)
  case atStart => exact ⟨0, Nat.zero_le _, rfl, fun j h => absurd h (Nat.not_lt_zero _), Below.refl _ _⟩
  case round =>
    obtain ⟨i, hi, rfl, HN, hb⟩ := hrel
    by_cases hlt : i < n
    · have hcell : wr.cell? ⟨b, off + i, none⟩ = some (bc (l.getD i 0)) := (hb.cell (p := ⟨b, off + i, none⟩) hbl).trans (HCE.out i hlt)
      obtain ⟨x, hx⟩ : ∃ x, x = l.getD i 0 := ⟨_, rfl⟩
      rw [← hx] at hcell
      unfold bc at hcell
      have hx256 : x.toNat < 256 := x.toNat_lt
      by_cases hlow : x.toNat < 128
      · have hcall := Tryd.bytealg_IndexByteString C (x.toNat : Int)
        have hbyte := ch_byte x x.toNat rfl
        rw [← hCd.out] at hbyte
        obtain ⟨z, hz⟩ : ∃ z, z = Lib.indexByte C.data.toList (x.toNat : Int).toNat.toUInt8 := ⟨_, rfl⟩
        rw [← hz] at hcall hbyte
        clear hz
        by_cases h0z : 0 ≤ z
        · have hr : r0 = i := by
            rw [HR.out]
            exact fz_hit l i (by rw [HL.out]; exact hlt) (by rw [← hx, ← hbyte, decide_eq_true h0z]) HN.out
          subst hr
          clear hx hbyte
          go_wp2
          go_ret
          exact ⟨rfl, hb⟩
        · have HN2 : Hid (∀ j, j < i + 1 → isDl (l.getD j 0) = false) := by
            intro j hj
            by_cases e : j = i
            · subst e; rw [← hx, ← hbyte, decide_eq_false h0z]
            · exact HN.out j (by omega)
          clear hx hbyte
          go_wp2
          go_roundw
          case rel => exact ⟨i + 1, hlt, by go_num, HN2, hb⟩
          case measure => simp [intOf]; omega
      · have hsz : (⟨(l.drop i).toArray⟩ : ByteArray).size = n - i := by
          show (l.drop i).length = _
          rw [List.length_drop, HL.out]
        have hg0 : ((⟨(l.drop i).toArray⟩ : ByteArray).get! 0) = x := by rw [dr_get, Nat.add_zero, hx]
        obtain ⟨d1, d2, d3, d4, d5, d6⟩ := dec_high ⟨(l.drop i).toArray⟩ (by rw [hsz]; omega) (by rw [hg0]; omega)
        have hdec := Tryd.utf8_DecodeRune ⟨(l.drop i).toArray⟩ b (off + i) (cap - i) wr (Utf8Tabs_below HT.out hb) (fun j hj => by
          rw [hsz] at hj
          rw [dr_get, Nat.add_assoc]
          exact (hb.cell (p := ⟨b, off + (i + j), none⟩) hbl).trans (HCE.out (i + j) (by omega)))
        rw [show Lib.decodeGo ⟨(l.drop i).toArray⟩ = Utf8.decode ⟨(l.drop i).toArray⟩ 0 from by unfold Lib.decodeGo; rw [if_neg (by rw [hsz]; omega)], hsz] at hdec
        rw [hsz] at d3
        obtain ⟨r, hr⟩ : ∃ r, r = (Utf8.decode ⟨(l.drop i).toArray⟩ 0).1 := ⟨_, rfl⟩
        obtain ⟨wd, hwd⟩ : ∃ wd, wd = (Utf8.decode ⟨(l.drop i).toArray⟩ 0).2 := ⟨_, rfl⟩
        rw [← hr] at d1 d6 hdec
        rw [← hwd] at d2 d3 d4 d5 d6 hdec
        have HN2 : Hid (∀ j, j < i + wd → isDl (l.getD j 0) = false) := by
          intro j hj
          by_cases e : j < i
          · exact HN.out j e
          · have := d5 (j - i) (by omega)
            rw [dr_get, show i + (j - i) = j from by omega] at this
            exact dl_high _ this
        have HD6 : Hid _ := d6
        have HDC : Hid (Calls Tryd.prog 37 #[.slice (some ⟨b, off + i, none⟩) (n - i) (cap - i)] wr fun e w' => e = .returned (.tuple #[.int .i32 r, .int .i64 wd]) ∧ Below wr.heap.size wr w') := hdec
        clear d5 d6 hdec hr hwd hsz hg0 hx
        go_wp2_with fail
        refine Calls.mono HDC.out ?_
        rintro en w3 ⟨rfl, hb3⟩
        have hb4 := hb.trans (hb3.mono hb.size)
        have hm3 : w3.cell? ⟨0, 0, none⟩ = some (.int .i64 m) := (hb4.cell (p := ⟨0, 0, none⟩) h0).trans HM.out
        clear hb hb3 hcell HDC HN
        by_cases hre : r = 65533
        · subst hre
          go_wp2_with fail
          go_loopw [15] (fun _v wz => ∃ pos : Nat, wz = w3.iter C pos ∧ pos ≤ C.size) (fun _v wz => C.size - wz.iterPos w3.heap.size)
          case atStart => exact ⟨0, rfl, Nat.zero_le _⟩
          case round =>
            obtain ⟨pos, rfl, hp⟩ := hrel
            by_cases hlt4 : pos < C.size
            · have hasc := ch_ascii C hCd.out pos hlt4
              have hnx : ∀ ty, (Instr.next (.pointer (some ⟨w3.heap.size, 0, none⟩)) true ty).run Tryd.prog (w3.iter C pos) = _ := fun ty => run_next_ascii w3 C pos ty hlt4 hasc
              obtain ⟨y, hy⟩ : ∃ y, y = (C[pos]).toNat := ⟨_, rfl⟩
              rw [← hy] at hnx hasc
              have hyB : ((65533 : Int) == (y : Int)) = false := beq_eq_false_iff_ne.2 (by omega)
              clear hy
              go_wp2
              go_roundw
              case rel => exact ⟨pos + 1, rfl, hlt4⟩
              case measure => simp; omega
            · have hnx : ∀ ty, (Instr.next (.pointer (some ⟨w3.heap.size, 0, none⟩)) true ty).run Tryd.prog (w3.iter C pos) = _ := fun ty => run_next_end w3 C pos ty hlt4
              go_wp2
              go_roundw
              case rel => exact ⟨i + wd, by omega, by go_num, HN2, hb4.alloc hb4.size _⟩
              case measure => simp [intOf]; omega
        · have hreB : ((r : Int) != 65533) = true := by rw [bne_iff_ne]; omega
          obtain ⟨hv, hw6⟩ := HD6.out hre
          have hC8w : ((C.size : Int) == (wd : Int)) = false := beq_eq_false_iff_ne.2 (by omega)
          by_cases hmw : (wd : Int) ≤ m
          · obtain ⟨_, _, _, _, hes⟩ := enc_facts r hv d1
            have hes2 : (Utf8.encode (r : Int)).size = wd := by
              rw [hes]
              rcases hw6 with ⟨a1, a2⟩ | ⟨a1, a2, a3⟩ | ⟨a1, a2⟩
              · rw [if_pos a1, a2]
              · rw [if_neg (by omega), if_pos a2, a3]
              · rw [if_neg (by omega), if_neg (by omega), a2]
            have hcall := Tryd.bytealg_IndexString C (Utf8.encode (r : Int)) w3 m hm3 (by rw [hes2]; omega) (by rw [hes2]; exact hmw) (by omega)
            rw [hCd.out, enc_index r hv d1] at hcall
            clear hes hes2 hv hw6 hre
            go_wp2
            go_roundw
            case rel => exact ⟨i + wd, by omega, by go_num, HN2, hb4⟩
            case measure => simp [intOf]; omega
          · clear hv hw6 hre HD6
            go_wp2_with fail
            go_loopw [15] (fun _v wz => ∃ pos : Nat, wz = w3.iter C pos ∧ pos ≤ C.size) (fun _v wz => C.size - wz.iterPos w3.heap.size)
            case atStart => exact ⟨0, rfl, Nat.zero_le _⟩
            case round =>
              obtain ⟨pos, rfl, hp⟩ := hrel
              by_cases hlt4 : pos < C.size
              · have hasc := ch_ascii C hCd.out pos hlt4
                have hnx : ∀ ty, (Instr.next (.pointer (some ⟨w3.heap.size, 0, none⟩)) true ty).run Tryd.prog (w3.iter C pos) = _ := fun ty => run_next_ascii w3 C pos ty hlt4 hasc
                obtain ⟨y, hy⟩ : ∃ y, y = (C[pos]).toNat := ⟨_, rfl⟩
                rw [← hy] at hnx hasc
                have hyB : ((r : Int) == (y : Int)) = false := beq_eq_false_iff_ne.2 (by omega)
                clear hy
                go_wp2
                go_roundw
                case rel => exact ⟨pos + 1, rfl, hlt4⟩
                case measure => simp; omega
              · have hnx : ∀ ty, (Instr.next (.pointer (some ⟨w3.heap.size, 0, none⟩)) true ty).run Tryd.prog (w3.iter C pos) = _ := fun ty => run_next_end w3 C pos ty hlt4
                go_wp2
                go_roundw
                case rel => exact ⟨i + wd, by omega, by go_num, HN2, hb4.alloc hb4.size _⟩
                case measure => simp [intOf]; omega
    · obtain rfl : i = n := by omega
      have hr : r0 = -1 := by rw [HR.out]; exact fz_none l (by rw [HL.out]; exact HN.out)
      subst hr
      go_wp2
      go_ret
      exact ⟨rfl, hb⟩
end Go.Proofs.Qxb6602401aDoor
