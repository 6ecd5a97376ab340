import Derived.Test.Qxb6601974aDoorPl
import Derived.Shelf.Strings.PiecesUse
namespace Go.Proofs.Qxb6601974aDoor
open Go.RowKit

theorem ba_ext {a b : ByteArray} (h : a.data.toList = b.data.toList) : a = b := by
  rw [← Lib.mk_data a, ← Lib.mk_data b, h]

theorem ext_ext (s : ByteArray) (pos n : Nat) : (s.extract pos s.size).extract n (s.extract pos s.size).size = s.extract (pos + n) s.size := by
  apply ba_ext
  rw [Lib.extract_to_end, Lib.extract_to_end, Lib.extract_to_end, List.drop_drop]

theorem ext_head (s : ByteArray) (pos n : Nat) : (s.extract pos s.size).extract 0 n = ⟨((s.data.toList.drop pos).take n).toArray⟩ := by
  rw [Lib.extract_eq, Lib.extract_to_end, List.drop_zero, Nat.sub_zero]

theorem ext_len (s : ByteArray) (pos : Nat) (h : pos ≤ s.size) : (s.extract pos s.size).size = s.size - pos := by
  rw [ByteArray.size_extract]; omega

theorem ext_all (s : ByteArray) : s.extract 0 s.size = s := by
  apply ba_ext; rw [Lib.extract_to_end]; rfl

theorem go_at (s : ByteArray) (pos : Nat) (h : pos < s.size) : (Lib.decodeGo (s.extract pos s.size)).2 = (Utf8.decode s pos).2 := by
  unfold Lib.decodeGo
  rw [if_neg (by rw [ext_len s pos (by omega)]; omega), Lib.tail_decode, Nat.add_zero]

set_option maxHeartbeats 1000000 in
set_option maxRecDepth 100000 in
theorem explode27 (s : ByteArray) (w : World) (hs : s.size ≤ 1048576) (hT : Lib.Utf8Tabs 1 2 w) :
    Calls Tryd.prog 27 #[.string s, .int .i64 (-1)] w fun e w' => ∃ b, e = .returned (.slice (some ⟨b, 0, none⟩) (chunks s).length (chunks s).length) ∧ SRow w' (some ⟨b, 0, none⟩) (chunks s).length (chunks s) ∧ Below w.heap.size w w' := by
  have HT : Hid _ := hT
  clear hT
  obtain ⟨C, HC⟩ : ∃ C, Hid (C = chunks s) := ⟨_, rfl⟩
  obtain ⟨n, Hn⟩ : ∃ n, Hid (n = C.length) := ⟨_, rfl⟩
  have hn1 : n ≤ s.size := by
    rw [Hn.out, HC.out]; unfold chunks; rw [chunk_len]; exact Lib.runeCount_le s
  have hrc : Lib.runeCount s = n := by
    rw [Hn.out, HC.out]; unfold chunks; rw [chunk_len]; rfl
  rw [← HC.out, ← Hn.out]
  have hmk := run_make_row' (P := Tryd.prog) 22 9 (.string ⟨#[]⟩) 16 Tryd.underlying22 Tryd.info9 rfl .i64 .i64 n (by omega) (by omega)
  go_enter Tryd.func27, Tryd.ntmps27
  go_wp2_with fail
  refine (Tryd.utf8_RuneCountInString s w (by omega)).mono ?_
  rintro en w1 ⟨rfl, pos1, rfl⟩
  rw [hrc]
  have hb1 : Below w.heap.size w (w.iter s pos1) := (Below.refl _ _).alloc (Nat.le_refl _) _
  obtain ⟨w1, hw1⟩ : ∃ w1, w1 = w.iter s pos1 := ⟨_, rfl⟩
  rw [← hw1] at hb1 ⊢
  clear hw1
  go_wp2_with fail
  have hvb := vbuf_made w1 (.string ⟨#[]⟩) n 9
  have hb2 : Below w.heap.size w (w1.alloc (.cells (madeCells #[Value.string ⟨#[]⟩] n) 9)) := hb1.alloc hb1.size _
  rw [half_zero C n] at hvb
  obtain ⟨w2, hw2⟩ : ∃ w2, w2 = w1.alloc (.cells (madeCells #[Value.string ⟨#[]⟩] n) 9) := ⟨_, rfl⟩
  rw [← hw2] at hvb hb2 ⊢
  clear hw2
  have hg : w.heap.size ≤ w1.heap.size := hb1.size
  obtain ⟨g, hgd⟩ : ∃ g, g = w1.heap.size := ⟨_, rfl⟩
  rw [← hgd] at hvb hg ⊢
  clear hgd hb1
  go_loopw [0, 7] (fun r i wr => ∃ (k pos f : Nat), k ≤ n ∧ (k = n → n = 0) ∧ i = .int .i64 k ∧ r = .string (s.extract pos s.size) ∧ pos ≤ s.size ∧ Hid (C.drop k = chunk s f pos ∧ s.size - pos ≤ f) ∧ VBuf g (half C n k) wr ∧ Below w.heap.size w wr) (fun _ i _ => n - (intOf i).toNat)
  case atStart => exact ⟨0, 0, s.size, Nat.zero_le _, fun e => e.symm, rfl, by rw [ext_all], Nat.zero_le _, ⟨HC.out, by omega⟩, hvb, hb2⟩
  case round =>
    clear hvb hb2
    obtain ⟨k, pos, f, hk, hk0, rfl, rfl, hp, HR, hv, hb⟩ := hrel
    by_cases hlt : k + 1 < n
    · have hcd : C.drop k ≠ [] := by rw [ne_eq, List.drop_eq_nil_iff, ← Hn.out]; omega
      have hCk : C.getD k [] :: C.drop (k + 1) = C.drop k := by
        rw [List.drop_eq_getElem_cons (by rw [← Hn.out]; omega)]
        simp [(by rw [← Hn.out]; omega : k < C.length)]
      obtain ⟨f', hf', hpos, hch⟩ := chunk_cons s f pos (by rw [← HR.out.1]; exact hcd)
      have hch2 : C.getD k [] :: C.drop (k + 1) = _ := hCk.trans (HR.out.1.trans hch)
      obtain ⟨hx, hrest⟩ := List.cons.inj hch2
      obtain ⟨hw1, hw2⟩ := width_room s pos hpos
      have hdg := go_at s pos hpos
      obtain ⟨wd, Hwd⟩ : ∃ wd, Hid (wd = (Utf8.decode s pos).2) := ⟨_, rfl⟩
      rw [← Hwd.out] at hx hrest hw1 hw2 hdg
      have HR2 : Hid (C.drop (k + 1) = chunk s f' (pos + wd) ∧ s.size - (pos + wd) ≤ f') := ⟨hrest, by have := HR.out.2; omega⟩
      have HX : Hid (C.getD k [] = (s.data.toList.drop pos).take wd) := hx
      clear hcd hCk hch hch2 hx hrest HR Hwd
      obtain ⟨r, Hr, hr1, hr2⟩ : ∃ r : ByteArray, Hid (r = s.extract pos s.size) ∧ r.size ≤ s.size - pos ∧ s.size - pos ≤ r.size := ⟨_, rfl, by rw [ext_len s pos hp]; omega, by rw [ext_len s pos hp]; omega⟩
      rw [← Hr.out] at hdg ⊢
      have htab := Utf8Tabs_below HT.out hb
      go_wp2_with fail
      refine (Tryd.utf8_DecodeRuneInString r _ htab).mono ?_
      rintro en w3 ⟨rfl, hb3⟩
      rw [hdg]
      have hv3 : VBuf g (half C n k) w3 := hv.keep hb3.size (hb3.block g hv.1)
      have hb4 := hb.trans (hb3.mono hb.size)
      clear hv hb hb3 htab hdg
      have hkl : k < (half C n k).length := by rw [half_len C n k Hn.out.symm (by omega)]; omega
      have hold := (hv3.2 k hkl).1
      have hfro := (hv3.2 k hkl).2
      rw [List.getElem?_eq_getElem hkl] at hold
      have hv4 := hv3.set k hkl (sc (C.getD k []))
      rw [half_step C n k Hn.out.symm (by omega), HX.out] at hv4
      have hb5 := hb4.setCell (p := ⟨g, k, none⟩) hg (sc ((s.data.toList.drop pos).take wd))
      rw [show sc ((s.data.toList.drop pos).take wd) = .string (r.extract 0 wd) from by rw [Hr.out, ext_head]; rfl] at hv4 hb5
      have HV4 : Hid _ := hv4
      have HB5 : Hid _ := hb5
      have Hr2 : Hid (r.extract wd r.size = s.extract (pos + wd) s.size) := by rw [Hr.out]; exact ext_ext s pos wd
      clear hv4 hb5 hv3 hb4 Hr
      go_wp2
      go_roundw
      case rel => exact ⟨k + 1, pos + wd, f', by omega, by omega, by go_num, by rw [Hr2.out], by omega, HR2, HV4.out, HB5.out⟩
      case measure => simp [intOf]; omega
    · by_cases h0 : n = 0
      · have hk1 : k = 0 := by omega
        subst hk1
        subst h0
        clear hv
        go_wp2
        go_ret
        exact ⟨g, rfl, ⟨Hn.out.symm, .inl rfl⟩, hb⟩
      · have hk1 : n = k + 1 := by
          by_cases e : k = n
          · exact absurd (hk0 e) h0
          · omega
        have hlast : C.getD k [] = s.data.toList.drop pos := by
          have h1 := chunk_flat s f pos HR.out.2
          rw [← HR.out.1, List.drop_eq_getElem_cons (by rw [← Hn.out]; omega), List.drop_eq_nil_of_le (by rw [← Hn.out]; omega)] at h1
          rw [← h1]
          simp [(by rw [← Hn.out]; omega : k < C.length)]
        have hkl : k < (half C n k).length := by rw [half_len C n k Hn.out.symm (by omega)]; omega
        have hold := (hv.2 k hkl).1
        have hfro := (hv.2 k hkl).2
        rw [List.getElem?_eq_getElem hkl] at hold
        have hv4 := hv.set k hkl (sc (C.getD k []))
        rw [half_step C n k Hn.out.symm (by omega), ← hk1, half_all C n Hn.out.symm, hlast] at hv4
        have hb5 := hb.setCell (p := ⟨g, k, none⟩) hg (sc (s.data.toList.drop pos))
        obtain ⟨r, Hr⟩ : ∃ r : ByteArray, Hid (r = s.extract pos s.size) := ⟨_, rfl⟩
        rw [show sc (s.data.toList.drop pos) = .string r from by rw [Hr.out, ← Lib.extract_to_end]; unfold sc; rw [Lib.mk_data]] at hv4 hb5
        rw [← Hr.out]
        have hrow := vbuf_row hv4
        rw [← Hn.out] at hrow
        have HRW : Hid _ := hrow
        have HB5 : Hid _ := hb5
        clear hrow hv hv4 hb5 hlast HR hb Hr
        subst hk1
        go_wp2
        go_ret
        exact ⟨g, rfl, HRW.out, HB5.out⟩

set_option maxRecDepth 100000 in
theorem gen24 (s : ByteArray) (w : World) (hs : s.size ≤ 1048576) (hT : Lib.Utf8Tabs 1 2 w) :
    Calls Tryd.prog 24 #[.string s, .string ⟨#[]⟩, .int .i64 0, .int .i64 (-1)] w fun e w' => ∃ b, e = .returned (.slice (some ⟨b, 0, none⟩) (chunks s).length (chunks s).length) ∧ SRow w' (some ⟨b, 0, none⟩) (chunks s).length (chunks s) ∧ Below w.heap.size w w' := by
  have HT : Hid _ := hT
  clear hT
  go_enter Tryd.func24, Tryd.ntmps24
  go_wp2_with fail
  refine (explode27 s w hs HT.out).mono ?_
  rintro en w1 ⟨b, rfl, hrow, hb⟩
  have HR : Hid _ := hrow
  clear hrow
  go_wp2
  go_ret
  exact ⟨b, rfl, ⟨rfl, HR.out.2⟩, hb⟩

set_option maxRecDepth 100000 in
theorem split20_none (s : ByteArray) (w : World) (hs : s.size ≤ 1048576) (hT : Lib.Utf8Tabs 1 2 w) :
    Calls Tryd.prog 20 #[.string s, .string ⟨#[]⟩] w fun e w' => ∃ b, e = .returned (.slice (some ⟨b, 0, none⟩) (chunks s).length (chunks s).length) ∧ SRow w' (some ⟨b, 0, none⟩) (chunks s).length (chunks s) ∧ Below w.heap.size w w' := by
  have HT : Hid _ := hT
  clear hT
  go_enter Tryd.func20, Tryd.ntmps20
  go_wp2_with fail
  refine (gen24 s w hs HT.out).mono ?_
  rintro en w1 ⟨b, rfl, hrow, hb⟩
  have HR : Hid _ := hrow
  clear hrow
  go_wp2
  go_ret
  exact ⟨b, rfl, ⟨rfl, HR.out.2⟩, hb⟩

theorem split20 (s sep : ByteArray) (m : Int) (w : World) (hs : s.size ≤ 1048576) (hm : w.cell? ⟨0, 0, none⟩ = some (.int .i64 m)) (hT : Lib.Utf8Tabs 1 2 w) :
    Calls Tryd.prog 20 #[.string s, .string sep] w fun e w' => ∃ b, e = .returned (.slice (some ⟨b, 0, none⟩) (pcs s sep).length (pcs s sep).length) ∧ SRow w' (some ⟨b, 0, none⟩) (pcs s sep).length (pcs s sep) ∧ Below w.heap.size w w' := by
  unfold pcs
  by_cases h : sep.size = 0
  · rw [if_pos h]
    have : sep = ⟨#[]⟩ := ba_ext (by rw [show sep.data.toList = [] from List.eq_nil_of_length_eq_zero h])
    subst this
    exact split20_none s w hs hT
  · rw [if_neg h]
    refine (Tryd.strings_Split s sep m w (by omega) hm (by omega)).mono ?_
    rintro e w' ⟨rfl, rfl⟩
    have hd : (Lib.splitB sep 0 (Lib.countB s sep) s).map (·.data.toList) = Lib.split s.data.toList sep.data.toList := by
      rw [Lib.splitB_data]; rfl
    have hl := Lib.splitB_all sep (by omega) 0 _ s rfl
    have hc : Lib.countB s sep + 1 = (Lib.split s.data.toList sep.data.toList).length := by rw [← hd, List.length_map, hl]
    refine ⟨w.heap.size, by rw [hc], ⟨rfl, .inr ⟨w.heap.size, 0, rfl, by simp, fun i hi => ?_⟩⟩, (Below.refl _ _).alloc (Nat.le_refl _) _⟩
    have hli : i < (Lib.splitB sep 0 (Lib.countB s sep) s).length := by rw [hl, hc]; exact hi
    rw [Nat.zero_add, Lib.pieces_cell_at w _ 9 i _ (List.getElem?_eq_getElem hli), ← hd]
    rw [List.getD_eq_getElem?_getD, List.getElem?_map, List.getElem?_eq_getElem hli]
    simp [sc]
end Go.Proofs.Qxb6601974aDoor
