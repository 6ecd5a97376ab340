import Derived.Test.Qxb6601590aDoorW3
import Derived.Test.Qxb6601590aDoorShelf2
import Derived.Lib.Repeat
import Derived.Lib.TrimByte
import Derived.Lib.IndexMore
namespace Go.Proofs.Qxb6601590aDoor
open Go.RowKit

/-- what scaledDecimal writes behind the sign -/
def sbody (sg : List UInt8) (E : Int) : List UInt8 :=
  if 0 ≤ E then sg ++ Lib.repeatL [48] E.toNat
  else if 0 < (sg.length : Int) + E then sg.take (sg.length + E).toNat ++ ([46] ++ sg.drop (sg.length + E).toNat)
  else [48, 46] ++ (Lib.repeatL [48] (-(sg.length + E)).toNat ++ sg)

def stext (neg : Bool) (wh fr : List UInt8) (e : Int) : List UInt8 :=
  if Lib.trimRightB (Lib.trimLeftB (wh ++ fr) 48) 48 = [] then []
  else (if neg then [45] else []) ++ sbody (Lib.trimRightB (Lib.trimLeftB (wh ++ fr) 48) 48)
    (e + ((Lib.trimLeftB (wh ++ fr) 48).length - (Lib.trimRightB (Lib.trimLeftB (wh ++ fr) 48) 48).length - fr.length))

def sdec (l : List UInt8) (e : Int) : List UInt8 × Bool :=
  if digs (Lib.cut (Lib.trimPrefix l [45]) [46]).1 = false ∨ ((Lib.cut (Lib.trimPrefix l [45]) [46]).2.2 = true ∧ digs (Lib.cut (Lib.trimPrefix l [45]) [46]).2.1 = false) then ([], false)
  else (stext (Lib.hasPrefix l [45]) (Lib.cut (Lib.trimPrefix l [45]) [46]).1 (Lib.cut (Lib.trimPrefix l [45]) [46]).2.1 e, true)

theorem cut_le (s sep : List UInt8) : (Lib.cut s sep).1.length + (Lib.cut s sep).2.1.length ≤ s.length := by
  unfold Lib.cut
  split
  · simp [List.length_take, List.length_drop]; omega
  · simp

theorem ret_sdec {m : List UInt8 × Bool} {a : List UInt8} {b : Bool} (h : m = (a, b)) :
    Ending.returned (.tuple #[.agg #[.string ⟨a.toArray⟩], .bool b]) = Ending.returned (.tuple #[.agg #[.string ⟨m.1.toArray⟩], .bool m.2]) := by rw [h]

theorem one_later {r : Nat} {o : Obj} {w w' : World} (h : w.heap[r]? = some o) (hb : Below w.heap.size w w') : w'.heap[r]? = some o :=
  (hb.block r (lt_of_block h)).trans h

theorem below_later {w w1 w2 : World} (h : Below w.heap.size w w1) (hb : Below w1.heap.size w1 w2) : Below w.heap.size w w2 := h.trans (hb.mono h.size)

theorem one_below {r b : Nat} {o : Obj} {w w' : World} (h : w.heap[r]? = some o) (hr : r < b) (hb : Below b w w') : w'.heap[r]? = some o := (hb.block r hr).trans h

/-- the builder in block b holds the bytes l -/
def BI (b : Nat) (l : List UInt8) (w : World) : Prop := Lib.IsBuilder 44 5 b b (Lib.byteCells l) w

theorem BI_later {b : Nat} {l : List UInt8} {w w' : World} (h : BI b l w) (hb : Below w.heap.size w w') : BI b l w' := by
  have key : ∀ p, Lib.BuilderAt 44 5 b b p (Lib.byteCells l) w → Lib.BuilderAt 44 5 b b p (Lib.byteCells l) w' := by
    rintro p ⟨h1, v, h2, h3, h4⟩
    refine ⟨h1, v, one_later h2 hb, ⟨h3.1, ?_⟩, h4⟩
    rcases h3.2 with h | ⟨g, cap, cur, e1, e2, e3, e4⟩
    · exact .inl h
    · exact .inr ⟨g, cap, cur, e1, e2, one_later e3 hb, e4⟩
  rcases h with h | h
  · exact .inl (key _ h)
  · exact .inr (key _ h)

theorem BI_size {b : Nat} {l : List UInt8} {w : World} (h : BI b l w) : b ≤ w.heap.size := by
  rcases h with h | h
  · exact Nat.le_of_lt h.lt
  · exact Nat.le_of_lt h.lt

theorem byteCells_str (l x : List UInt8) : Lib.byteCells l ++ Lib.strCells ⟨x.toArray⟩ = Lib.byteCells (l ++ x) := by simp [Lib.byteCells, Lib.strCells]
theorem byteCells_len (l : List UInt8) : (Lib.byteCells l).length = l.length := by simp [Lib.byteCells]

theorem wS (b : Nat) (l x : List UInt8) (w : World) (h : BI b l w) (hl : l.length + x.length ≤ 1000000) :
    Calls Tryd.prog 26 #[.pointer (some ⟨b, 0, none⟩), .string ⟨x.toArray⟩] w fun e w' => e = .returned (.tuple #[.int .i64 x.length, .nilIface]) ∧ BI b (l ++ x) w' ∧ Below b w w' := by
  refine (Tryd.Builder_WriteString b b (Lib.byteCells l) ⟨x.toArray⟩ w h (by rw [byteCells_len]; show l.length + x.length ≤ _; omega) (BI_size h)).mono ?_
  rintro e w' ⟨rfl, h1, h2⟩
  rw [byteCells_str] at h1
  exact ⟨rfl, .inr h1, h2⟩

theorem wB (b : Nat) (l : List UInt8) (c : UInt8) (w : World) (h : BI b l w) (hl : l.length ≤ 1000000) :
    Calls Tryd.prog 25 #[.pointer (some ⟨b, 0, none⟩), .int .u8 c.toNat] w fun e w' => e = .returned .nilIface ∧ BI b (l ++ [c]) w' ∧ Below b w w' := by
  refine (Tryd.Builder_WriteByte b b (Lib.byteCells l) c.toNat w h (by rw [byteCells_len]; omega) (BI_size h)).mono ?_
  rintro e w' ⟨rfl, h1, h2⟩
  rw [show Lib.byteCells l ++ [Value.int .u8 c.toNat] = Lib.byteCells (l ++ [c]) from by simp [Lib.byteCells]] at h1
  exact ⟨rfl, .inr h1, h2⟩

theorem trimL_le (l : List UInt8) (c : UInt8) : (Lib.trimLeftB l c).length ≤ l.length := (List.dropWhile_sublist _).length_le
theorem trimR_le (l : List UInt8) (c : UInt8) : (Lib.trimRightB l c).length ≤ l.length := by
  unfold Lib.trimRightB
  rw [List.length_reverse]
  exact Nat.le_trans (List.dropWhile_sublist _).length_le (by simp)

set_option maxHeartbeats 1000000 in
set_option maxRecDepth 100000 in
theorem sdec_any (s : ByteArray) (e m : Int) (w : World) (hs : s.size ≤ 65536) (he1 : -65536 ≤ e) (he2 : e ≤ 65536) (hm : w.cell? ⟨0, 0, none⟩ = some (.int .i64 m)) :
    Calls Tryd.prog 16 #[.string s, .int .i64 e] w fun en w' => en = .returned (.tuple #[.agg #[.string ⟨(sdec s.data.toList e).1.toArray⟩], .bool (sdec s.data.toList e).2]) ∧ Below w.heap.size w w' := by
  obtain ⟨l1, H1, hl1⟩ : ∃ l1, Hid (l1 = Lib.trimPrefix s.data.toList [45]) ∧ l1.length ≤ 65536 := ⟨_, rfl, Nat.le_trans (Lib.trimPrefix_le _ _) hs⟩
  obtain ⟨neg, HN⟩ : ∃ neg, Hid (neg = Lib.hasPrefix s.data.toList [45]) := ⟨_, rfl⟩
  obtain ⟨wh, fr, hp, HC, hlen⟩ : ∃ wh fr hp, Hid (Lib.cut l1 [46] = (wh, fr, hp)) ∧ wh.length + fr.length ≤ 65536 := ⟨_, _, _, rfl, Nat.le_trans (cut_le _ _) hl1⟩
  go_enter Tryd.func16, Tryd.ntmps16
  go_wp2_with fail
  refine (Tryd.strings_CutPrefix _ _ _).mono ?_
  rintro en w1 ⟨rfl, rfl⟩
  rw [show (⟨#[45]⟩ : ByteArray).data.toList = [45] from rfl, ← H1.out, ← HN.out]
  have h0 : 0 < w.heap.size := World.block_lt_of_cell? w _ hm
  go_wp2_with fail
  refine (Tryd.strings_Cut _ _ m _ ?_ ?_).mono ?_
  · show l1.length < _; omega
  · exact (((Below.refl _ _).alloc (Nat.le_refl _) _).cell (p := ⟨0, 0, none⟩) h0).trans hm
  rintro en w2 ⟨rfl, n, hw2⟩
  have hR : w2.heap[w.heap.size]? = some (.cells #[.string ⟨#[]⟩] 35 (0, 0)) := by
    rw [hw2]; show (w.heap.push _)[w.heap.size]? = _; simp
  have hB : Below w.heap.size w w2 := by
    rw [hw2]; exact below_drewN ((Below.refl _ _).alloc (Nat.le_refl _) _) n
  clear hw2
  rw [show (⟨#[46]⟩ : ByteArray).data.toList = [46] from rfl, show (⟨l1.toArray⟩ : ByteArray).data.toList = l1 from rfl, HC.out]
  dsimp only
  obtain ⟨bad, HBad⟩ : ∃ bad, Hid (bad = (!(digs wh) || (hp && !(digs fr)))) := ⟨_, rfl⟩
  go_upto_region 3 with fail
  go_cut [35] from 14 to 35 (fun v wx => v = .bool bad ∧ wx.heap[w.heap.size]? = some (.cells #[.string ⟨#[]⟩] 35 (0, 0)) ∧ Below w.heap.size w wx)
  case first =>
    go_wp2_with fail
    refine (digitsOnly_any _ _ (by show wh.length ≤ _; omega)).mono ?_
    rintro en w3 ⟨rfl, hb3⟩
    rw [show (⟨wh.toArray⟩ : ByteArray).data.toList = wh from rfl]
    have hR3 := one_later hR hb3
    have hB3 := below_later hB hb3
    clear hb3 hR hB
    cases hdw : digs wh
    · have HT : Hid (bad = true) := by rw [HBad.out, hdw]; exact rfl
      go_wp2
      go_meet
      case rel => exact ⟨by rw [HT.out], hR3, hB3⟩
    · cases hp
      · have HT : Hid (bad = false) := by rw [HBad.out, hdw]; exact rfl
        go_wp2
        go_meet
        case rel => exact ⟨by rw [HT.out], hR3, hB3⟩
      · go_wp2_with fail
        refine (digitsOnly_any _ _ (by show fr.length ≤ _; omega)).mono ?_
        rintro en w4 ⟨rfl, hb4⟩
        rw [show (⟨fr.toArray⟩ : ByteArray).data.toList = fr from rfl]
        have hR4 := one_later hR3 hb4
        have hB4 := below_later hB3 hb4
        have HT : Hid (bad = !(digs fr)) := by rw [HBad.out, hdw]; exact rfl
        clear hb4 hR3 hB3
        go_wp2
        go_meet
        case rel => exact ⟨by rw [HT.out], hR4, hB4⟩
  case rest =>
    clear hR hB
    obtain ⟨rfl, hR, hB⟩ := hcut
    rename World => w5
    have hsd : Hid (sdec s.data.toList e = if bad = true then ([], false) else (stext neg wh fr e, true)) := by
      unfold sdec
      rw [← H1.out, ← HN.out, HC.out, HBad.out]
      cases digs wh <;> cases hp <;> cases digs fr <;> simp [Hid]
    cases bad
    · obtain ⟨d, HD, hdl⟩ : ∃ d, Hid (d = Lib.trimLeftB (wh ++ fr) 48) ∧ d.length ≤ 65536 := ⟨_, rfl, Nat.le_trans (trimL_le _ _) (by simpa using hlen)⟩
      obtain ⟨sg, HG, hgl⟩ : ∃ sg, Hid (sg = Lib.trimRightB d 48) ∧ sg.length ≤ d.length := ⟨_, rfl, trimR_le _ _⟩
      go_wp2_with fail
      refine (Tryd.strings_TrimLeft_one _ _ (by decide) _).mono ?_
      rintro en w6 ⟨rfl, rfl⟩
      rw [show (⟨wh.toArray⟩ ++ ⟨fr.toArray⟩ : ByteArray).data.toList = wh ++ fr from by simp, ← HD.out]
      go_wp2_with fail
      refine (Tryd.strings_TrimRight_one _ _ (by decide) _ (by show d.length ≤ _; omega)).mono ?_
      rintro en w6 ⟨rfl, rfl⟩
      rw [show (⟨d.toArray⟩ : ByteArray).data.toList = d from rfl, ← HG.out]
      obtain ⟨E, HE, hE1, hE2⟩ : ∃ E : Int, Hid (E = e + ((d.length : Int) - sg.length - fr.length)) ∧ E ≤ e + ((d.length : Int) - sg.length - fr.length) ∧ e + ((d.length : Int) - sg.length - fr.length) ≤ E := ⟨_, rfl, Int.le_refl _, Int.le_refl _⟩
      go_upto_region 7 with fail
      go_cut [1] from 37 to 52 (fun v wx => v = .int .i64 E ∧ w6 = wx)
      case first =>
        go_wp2
        go_meet
        case rel => exact ⟨by go_num, rfl⟩
      case rest =>
        obtain ⟨rfl, rfl⟩ := hcut
        have hst : Hid (sdec s.data.toList e = (if sg = [] then [] else (if neg then [45] else []) ++ sbody sg E, true)) := by
          have h := hsd.out
          unfold stext at h
          rw [← HD.out, ← HG.out, ← HE.out] at h
          exact h
        clear hsd
        by_cases hsg : sg = []
        · have hst2 : Hid (sdec s.data.toList e = ([], true)) := by have h := hst.out; rw [if_pos hsg] at h; exact h
          subst hsg
          have hc := cell_of_one hR
          have hf := free_of_one hR
          go_wp2
          refine bodyPost_ret (v := .tuple #[.agg #[.string ⟨#[]⟩], .bool true]) (by simp [results, Tryd.results16, go_sem, hc]) rfl ⟨ret_sdec hst2.out, ?_⟩
          exact hB.setCell (Nat.le_refl _) _
        · have hst2 : Hid (sdec s.data.toList e = ((if neg then [45] else []) ++ sbody sg E, true)) := by have h := hst.out; rw [if_neg hsg] at h; exact h
          have hsgB : sg.isEmpty = false := by cases sg <;> simp_all
          have hsg1 : 1 ≤ sg.length := by cases sg <;> simp_all
          clear hsg hst
          obtain ⟨pre, HP, hp1⟩ : ∃ pre : List UInt8, Hid (pre = if neg then [45] else []) ∧ pre.length ≤ 1 := ⟨_, rfl, by cases neg <;> simp⟩
          go_upto_if 56 with fail
          obtain ⟨bb, hbb⟩ : ∃ bb, bb = w6.heap.size := ⟨_, rfl⟩
          have hrb : w.heap.size < bb := by rw [hbb]; exact lt_of_block hR
          have hBI : BI bb [] (w6.alloc (Obj.cells #[Value.pointer none, Value.slice none 0 0] 44)) := by rw [hbb]; exact Lib.fresh_isBuilder 44 5 w6
          have hR7 : (w6.alloc (Obj.cells #[Value.pointer none, Value.slice none 0 0] 44)).heap[w.heap.size]? = some (.cells #[.string ⟨#[]⟩] 35 (0, 0)) := one_later hR ((Below.refl _ _).alloc (Nat.le_refl _) _)
          have hB7 : Below w.heap.size w (w6.alloc (Obj.cells #[Value.pointer none, Value.slice none 0 0] 44)) := hB.alloc hB.size _
          rw [← hbb]
          clear hbb hR hB
          go_cut [57] from 53 to 57 (fun _ wx => BI bb pre wx ∧ wx.heap[w.heap.size]? = some (.cells #[.string ⟨#[]⟩] 35 (0, 0)) ∧ Below w.heap.size w wx)
          case first =>
            cases neg
            · have hpre : pre = [] := HP.out
              subst hpre
              go_wp2
              go_meet
              case rel => exact ⟨hBI, hR7, hB7⟩
            · have hpre : pre = [45] := HP.out
              subst hpre
              go_wp2_with fail
              refine (wB bb [] 45 _ hBI (by simp)).mono ?_
              rintro en w8 ⟨rfl, hBI8, hb8⟩
              have hR8 := one_below hR7 hrb hb8
              have hB8 := hB7.trans (hb8.mono (Nat.le_of_lt hrb))
              clear hBI hR7 hB7 hb8
              go_wp2
              go_meet
              case rel => exact ⟨hBI8, hR8, hB8⟩
          case rest =>
            clear hBI hR7 hB7
            obtain ⟨hBI8, hR8, hB8⟩ := hcut
            rename World => w8
            rw [← HP.out] at hst2
            obtain ⟨txt, HTX⟩ : ∃ txt, Hid (txt = pre ++ sbody sg E) := ⟨_, rfl⟩
            rw [← HTX.out] at hst2
            go_upto_block 0 with fail
            go_cut [69] from 58 to 88 (fun _ wx => BI bb txt wx ∧ wx.heap[w.heap.size]? = some (.cells #[.string ⟨#[]⟩] 35 (0, 0)) ∧ Below w.heap.size w wx)
            case first =>
              clear hst2
              by_cases hE0 : 0 ≤ E
              · obtain ⟨En, rfl⟩ : ∃ En : Nat, E = En := ⟨E.toNat, by omega⟩
                have HX : Hid (txt = pre ++ sg ++ Lib.repeatL [48] En) := by
                  have h := HTX.out
                  unfold sbody at h
                  rw [if_pos hE0] at h
                  rw [h]; simp [Hid]
                go_wp2_with fail
                refine (wS bb (pre) (sg) _ hBI8 (by omega)).mono ?_
                rintro en w9 ⟨rfl, hBI9, hb9⟩
                have hR9 := one_below hR8 hrb hb9
                have hB9 := hB8.trans (hb9.mono (Nat.le_of_lt hrb))
                clear hBI8 hR8 hB8 hb9
                go_wp2_with fail
                refine (Tryd.strings_Repeat _ En _ (by omega) (by show 1 * En ≤ _; omega)).mono ?_
                rintro en w10 ⟨rfl, hb10⟩
                rw [show (⟨#[48]⟩ : ByteArray).data.toList = [48] from rfl]
                have hR10 := one_later hR9 hb10
                have hB10 := below_later hB9 hb10
                have hBI10 := BI_later hBI9 hb10
                clear hBI9 hR9 hB9 hb10
                go_wp2_with fail
                refine (wS bb (pre ++ sg) (Lib.repeatL [48] En) _ hBI10 (by rw [Lib.repeatL_length]; simp; omega)).mono ?_
                rintro en w11 ⟨rfl, hBI11, hb11⟩
                have hR11 := one_below hR10 hrb hb11
                have hB11 := hB10.trans (hb11.mono (Nat.le_of_lt hrb))
                clear hBI10 hR10 hB10 hb11
                go_wp2
                go_meet
                case rel => exact ⟨by rw [HX.out]; first | exact hBI11 | simpa using hBI11, hR11, hB11⟩
              · by_cases hpt : 0 < (sg.length : Int) + E
                · obtain ⟨pn, hpn1, hpn2⟩ : ∃ pn : Nat, (pn : Int) ≤ sg.length + E ∧ sg.length + E ≤ (pn : Int) := ⟨(sg.length + E).toNat, by omega, by omega⟩
                  have hpn3 : pn < sg.length := by omega
                  have HX : Hid (txt = pre ++ sg.take pn ++ [46] ++ sg.drop pn) := by
                    have h := HTX.out
                    unfold sbody at h
                    rw [if_neg hE0, if_pos hpt, show (sg.length + E).toNat = pn from by omega] at h
                    rw [h]; simp [Hid]
                  go_wp2_with fail
                  rw [show (⟨sg.toArray⟩ : ByteArray).extract 0 ((sg.length : Int) + E).toNat = ⟨(sg.take pn).toArray⟩ from by rw [show ((sg.length : Int) + E).toNat = pn from by omega, Lib.extract_eq]; simp]
                  refine (wS bb (pre) (sg.take pn) _ hBI8 (by rw [List.length_take]; omega)).mono ?_
                  rintro en w9 ⟨rfl, hBI9, hb9⟩
                  have hR9 := one_below hR8 hrb hb9
                  have hB9 := hB8.trans (hb9.mono (Nat.le_of_lt hrb))
                  clear hBI8 hR8 hB8 hb9
                  go_wp2_with fail
                  refine (wB bb (pre ++ sg.take pn) 46 _ hBI9 (by rw [List.length_append, List.length_take]; omega)).mono ?_
                  rintro en w10 ⟨rfl, hBI10, hb10⟩
                  have hR10 := one_below hR9 hrb hb10
                  have hB10 := hB9.trans (hb10.mono (Nat.le_of_lt hrb))
                  clear hBI9 hR9 hB9 hb10
                  go_wp2_with fail
                  rw [show (⟨sg.toArray⟩ : ByteArray).extract ((sg.length : Int) + E).toNat sg.length = ⟨(sg.drop pn).toArray⟩ from by rw [show ((sg.length : Int) + E).toNat = pn from by omega, Lib.extract_eq]; simp; exact List.take_of_length_le (by simp)]
                  refine (wS bb (pre ++ sg.take pn ++ [46]) (sg.drop pn) _ hBI10 (by simp; omega)).mono ?_
                  rintro en w11 ⟨rfl, hBI11, hb11⟩
                  have hR11 := one_below hR10 hrb hb11
                  have hB11 := hB10.trans (hb11.mono (Nat.le_of_lt hrb))
                  clear hBI10 hR10 hB10 hb11
                  go_wp2
                  go_meet
                  case rel => exact ⟨by rw [HX.out]; first | exact hBI11 | simpa using hBI11, hR11, hB11⟩
                · obtain ⟨zn, hzn1, hzn2⟩ : ∃ zn : Nat, (zn : Int) ≤ -(sg.length + E) ∧ -(sg.length + E) ≤ (zn : Int) := ⟨(-(sg.length + E)).toNat, by omega, by omega⟩
                  have HX : Hid (txt = pre ++ [48, 46] ++ Lib.repeatL [48] zn ++ sg) := by
                    have h := HTX.out
                    unfold sbody at h
                    rw [if_neg hE0, if_neg hpt, show (-(sg.length + E)).toNat = zn from by omega] at h
                    rw [h]; simp [Hid]
                  go_wp2_with fail
                  refine (wS bb (pre) ([48, 46]) _ hBI8 (by simp; omega)).mono ?_
                  rintro en w9 ⟨rfl, hBI9, hb9⟩
                  have hR9 := one_below hR8 hrb hb9
                  have hB9 := hB8.trans (hb9.mono (Nat.le_of_lt hrb))
                  clear hBI8 hR8 hB8 hb9
                  go_wp2_with fail
                  rw [show -((sg.length : Int) + E) = (zn : Int) from by omega]
                  refine (Tryd.strings_Repeat _ zn _ (by omega) (by show 1 * zn ≤ _; omega)).mono ?_
                  rintro en w10 ⟨rfl, hb10⟩
                  rw [show (⟨#[48]⟩ : ByteArray).data.toList = [48] from rfl]
                  have hR10 := one_later hR9 hb10
                  have hB10 := below_later hB9 hb10
                  have hBI10 := BI_later hBI9 hb10
                  clear hBI9 hR9 hB9 hb10
                  go_wp2_with fail
                  refine (wS bb (pre ++ [48, 46]) (Lib.repeatL [48] zn) _ hBI10 (by rw [Lib.repeatL_length]; simp; omega)).mono ?_
                  rintro en w11 ⟨rfl, hBI11, hb11⟩
                  have hR11 := one_below hR10 hrb hb11
                  have hB11 := hB10.trans (hb11.mono (Nat.le_of_lt hrb))
                  clear hBI10 hR10 hB10 hb11
                  go_wp2_with fail
                  refine (wS bb (pre ++ [48, 46] ++ Lib.repeatL [48] zn) (sg) _ hBI11 (by rw [List.length_append, Lib.repeatL_length]; simp; omega)).mono ?_
                  rintro en w12 ⟨rfl, hBI12, hb12⟩
                  have hR12 := one_below hR11 hrb hb12
                  have hB12 := hB11.trans (hb12.mono (Nat.le_of_lt hrb))
                  clear hBI11 hR11 hB11 hb12
                  go_wp2
                  go_meet
                  case rel => exact ⟨by rw [HX.out]; first | exact hBI12 | simpa using hBI12, hR12, hB12⟩
            case rest =>
              clear hBI8 hR8 hB8
              obtain ⟨hBI9, hR9, hB9⟩ := hcut
              rename World => w9
              go_wp2_with fail
              refine (Tryd.Builder_String_any bb bb _ _ hBI9 (BI_size hBI9)).mono ?_
              rintro en w10 ⟨rfl, hb10⟩
              have hR10 := one_below hR9 hrb hb10
              have hB10 := hB9.trans (hb10.mono (Nat.le_of_lt hrb))
              have hc := cell_of_one hR10
              have hf := free_of_one hR10
              clear hBI9 hb10 hR9 hB9
              go_wp2
              refine bodyPost_ret (v := .tuple #[.agg #[.string ⟨txt.toArray⟩], .bool true]) (by simp [results, Tryd.results16, go_sem, hc]) rfl ⟨ret_sdec hst2.out, ?_⟩
              exact hB10.setCell (Nat.le_refl _) _
    · have hc := cell_of_one hR
      have hf := free_of_one hR
      go_wp2
      refine bodyPost_ret (v := .tuple #[.agg #[.string ⟨#[]⟩], .bool false]) (by simp [results, Tryd.results16, go_sem, hc]) rfl ⟨ret_sdec hsd.out, ?_⟩
      exact hB.setCell (Nat.le_refl _) _
end Go.Proofs.Qxb6601590aDoor
