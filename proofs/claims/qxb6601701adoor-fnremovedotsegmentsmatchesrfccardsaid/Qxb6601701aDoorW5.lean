import Derived.Test.Qxb6601701aDoorW4
import Derived.Test.Qxb6601701aDoorPl3
namespace Go.Proofs.Qxb6601701aDoor
open Go.RowKit

def bc (c : UInt8) : Value := .int .u8 c.toNat
def Bs (l : List UInt8) : List Value := l.map bc
theorem Bs_app (l r : List UInt8) : Bs l ++ Bs r = Bs (l ++ r) := by simp [Bs]
theorem Bs_len (l : List UInt8) : (Bs l).length = l.length := by simp [Bs]
theorem Bs_get (l : List UInt8) (i : Nat) (h : i < l.length) : (Bs l)[i]? = some (.int .u8 (l.getD i 0).toNat) := by
  simp [Bs, bc, h]
theorem Bs_one (l : List UInt8) : ∀ u ∈ Bs l, u.oneCell' = true := by
  intro u hu
  obtain ⟨_, _, rfl⟩ := List.mem_map.1 hu
  rfl

/-- the block b holds the bytes I, and may be written -/
def Buf (b : Nat) (I : List UInt8) (w : World) : Prop := b < w.heap.size ∧ ∀ i, i < I.length → w.cell? ⟨b, i, none⟩ = some (.int .u8 (I.getD i 0).toNat) ∧ w.frozen? ⟨b, i, none⟩ = false

theorem Buf.keep {b : Nat} {I : List UInt8} {w w' : World} (h : Buf b I w) (hs : w.heap.size ≤ w'.heap.size) (hb : w'.heap[b]? = w.heap[b]?) : Buf b I w' :=
  ⟨Nat.lt_of_lt_of_le h.1 hs, fun i hi => ⟨(World.cell?_of_block (w := w) hb).trans (h.2 i hi).1, (World.frozen?_of_block (w := w) hb).trans (h.2 i hi).2⟩⟩

theorem Buf.set {b : Nat} {I : List UInt8} {w : World} (h : Buf b I w) (k : Nat) (hk : k < I.length) (c : UInt8) : Buf b (I.set k c) (w.setCell ⟨b, k, none⟩ (.int .u8 c.toNat)) := by
  refine ⟨by have := h.1; simp [World.setCell]; omega, fun i hi => ?_⟩
  rw [List.length_set] at hi
  refine ⟨?_, by rw [World.frozen?_setCell]; exact (h.2 i hi).2⟩
  by_cases e : k = i
  · subst e
    rw [World.cell?_setCell_same _ _ _ (h.2 k hk).1]
    simp [hk]
  · rw [World.cell?_setCell_other _ _ _ _ (by intro h; apply e; cases h; rfl), (h.2 i hi).1]
    simp [List.getElem?_set_ne e]

theorem conv_bytes (s : ByteArray) (w : World) : ∃ O cap, (convert 9 25 (.string s)).run Tryd.prog w = .ok (.slice (some ⟨w.heap.size, 0, none⟩) s.size cap) (w.drew.alloc O) ∧ s.size ≤ cap ∧ Buf w.heap.size s.data.toList (w.alloc O) := by
  have hconv := run_bytes_of_string w 9 25 5 s Tryd.underlying9 Tryd.underlying25 Tryd.underlying5
  refine ⟨_, _, hconv, grownCap_ge _ _ _ _, by simp, fun i hi => ?_⟩
  have hi' : i < s.size := hi
  generalize grownCap w s.size 0 5 = cap
  have hh : (w.alloc (.cells (bytesRow s cap) 5 ((bytesRow s cap).size, (bytesRow s cap).size + 1))).heap[w.heap.size]? = some (.cells (bytesRow s cap) 5 ((bytesRow s cap).size, (bytesRow s cap).size + 1)) := by
    show (w.heap.push _)[w.heap.size]? = _
    simp
  have hg : (bytesRow s cap)[i]? = some (.int .u8 (s.data.toList.getD i 0).toNat) := by
    unfold bytesRow
    rw [Array.getElem?_append_left (by simpa using hi'), Array.getElem?_map, Array.getElem?_eq_getElem hi']
    rw [List.getD_eq_getElem?_getD, List.getElem?_eq_getElem hi]
    rfl
  constructor
  · simp only [World.cell?]
    rw [hh]
    exact hg
  · simp only [World.frozen?]
    rw [hh]
    have hlt := (Array.getElem?_eq_some_iff.1 hg).1
    simp
    omega

theorem conv_row {w : World} {base g cap : Nat} {l : List UInt8} (h : w.ownsRow base 5 1 (.slice (some ⟨g, 0, none⟩) l.length cap) l.length (Bs l)) :
    (convert 25 9 (.slice (some ⟨g, 0, none⟩) l.length cap)).run Tryd.prog w = .ok (.string ⟨l.toArray⟩) w := by
  refine run_convert_bytes_back w 25 9 5 ⟨g, 0, none⟩ cap l Tryd.underlying25 Tryd.underlying5 Tryd.underlying9 fun j hj => ?_
  have h1 := h.cellAt j (by omega)
  rw [Bs_get l j hj] at h1
  rw [Addr.add_lit, Nat.zero_add, h1]
  simp [List.getD_eq_getElem?_getD, List.getElem?_eq_getElem hj]

/-- a row that is owned, cut shorter -/
theorem own_cut {w : World} {base g cap n j : Nat} {e : TypeId} {xs : List Value} (h : w.ownsRow base e 1 (.slice (some ⟨g, 0, none⟩) n cap) n xs) (hj : j ≤ n) :
    w.ownsRow base e 1 (.slice (some ⟨g, 0, none⟩) j cap) j (xs.take j) := by
  refine ⟨by have := h.1; simp; omega, ?_⟩
  rcases h.2 with ⟨h', _⟩ | ⟨g', cap', cur, h', h1, h2, h3, h4, h5, h6⟩
  · cases h'
  · cases h'
    refine .inr ⟨g, cap, cur, rfl, h1, h2, by omega, h4, h5, ?_⟩
    rw [← h6, List.take_take]
    congr 1
    omega

theorem is46 (c : UInt8) : (c = 46) ↔ ((c.toNat : Int) = 46) := by
  constructor
  · intro e; rw [e]; rfl
  · intro e; apply UInt8.toNat_inj.1; simp; omega

theorem ren_take (K : List (List UInt8)) : (Bs (ren K)).take (ren K.dropLast).length = Bs (ren K.dropLast) ∧ (ren K.dropLast).length ≤ (ren K).length := by
  rcases List.eq_nil_or_concat K with rfl | ⟨K', y, rfl⟩
  · simp [ren_nil, Bs]
  · rw [List.concat_eq_append, List.dropLast_concat, ren_snoc]
    simp [Bs]

theorem pop_any (g cap base : Nat) (K : List (List UInt8)) (L : List UInt8) (w : World) (hL : L = ren K) (hK : ∀ x ∈ K, (47 : UInt8) ∉ x) (hc : cap ≤ 1048576) (hl : L.length ≤ cap)
    (hown : w.ownsRow base 5 1 (.slice (some ⟨g, 0, none⟩) L.length cap) L.length (Bs L)) :
    Calls Tryd.prog 34 #[.slice (some ⟨g, 0, none⟩) L.length cap] w fun e w' => e = .returned (.slice (some ⟨g, 0, none⟩) (ren K.dropLast).length cap) ∧ w' = w := by
  rcases List.eq_nil_or_concat K with rfl | ⟨K', y, rfl⟩
  · subst hL; exact pop_nil g cap w
  · rw [List.concat_eq_append, List.dropLast_concat]
    rw [List.concat_eq_append, ren_snoc] at hL
    subst hL
    refine pop_some g cap (ren K') y w (hK y (by simp)) (by simp at hl; omega) hc (fun i hi => ?_)
    rw [hown.cellAt i (by omega), Bs_get _ i hi]

theorem Tryd.info5 : (Tryd.prog.info? 5).map (fun i => (i.zero, i.size, i.bytes)) = some (some (.int .u8 0), 1, 1) := by kernel_rfl

set_option maxHeartbeats 2000000 in
set_option maxRecDepth 100000 in
theorem rfc_any (s : ByteArray) (w : World) (hs : s.size ≤ 1048576) (r0 : List UInt8) (h0 : s.data.toList = 47 :: r0) :
    Calls Tryd.prog 22 #[.string s] w fun e w' => e = .returned (.string ⟨(ren (rf (spl r0) [])).toArray⟩) ∧ Below w.heap.size w w' := by
  obtain ⟨ans, HA⟩ : ∃ ans, Hid (ans = ren (rf (spl r0) [])) := ⟨_, rfl⟩
  rw [← HA.out]
  have hn1 : 1 ≤ s.size := by
    have := congrArg List.length h0
    rw [List.length_cons, show s.data.toList.length = s.size from rfl] at this; omega
  obtain ⟨O, capI, hconv, hcapI, hbuf0⟩ := conv_bytes s w
  have H0 : Hid _ := h0
  have HB0 : Hid _ := hbuf0
  clear h0 hbuf0
  obtain ⟨i0, hi, hz0, hz1, hz2⟩ := info_parts Tryd.info5
  go_enter Tryd.func22, Tryd.ntmps22
  go_wp2_with (at_make; refine wpList_make_own _ rfl _ _ 25 rfl (w.heap.size + 1) 5 i0 (.int .u8 0) 1 Tryd.underlying25 hi hz0 hz1 .i64 .i64 _ s.size rfl rfl ?_ ?_ ?_ ?_ ?_)
  · rfl
  · rw [hz2]; omega
  · unfold maxLen; omega
  · show w.heap.size + 1 ≤ (w.heap.push O).size
    simp
  · intro w1 hown1 hgrow1
    have hbuf1 : Buf w.heap.size s.data.toList w1 := Buf.keep HB0.out hgrow1.size (hgrow1.block w.heap.size (by show w.heap.size < (w.heap.push O).size; simp) (by simp))
    have hb1 : Below w.heap.size w w1 := (((Below.refl _ _).alloc (Nat.le_refl _) O).drew).grown hgrow1 (by show w.heap.size ≤ (w.heap.push O).size; simp) (fun k h => by cases h)
    clear hgrow1 HB0
    go_wp2_with fail
    go_loopw [4, 5] (fun v i wr => ∃ (p : Nat) (I L : List UInt8) (K : List (List UInt8)), p ≤ s.size ∧ i = .int .i64 p ∧ v = .slice (some ⟨w.heap.size + 1, 0, none⟩) L.length s.size ∧ L.length ≤ p ∧ I.length ≤ s.size ∧ s.size ≤ I.length ∧ Hid (L = ren K ∧ ∀ x ∈ K, (47 : UInt8) ∉ x) ∧
        Hid ((p = s.size ∧ ans = L) ∨ ∃ r, I.drop p = 47 :: r ∧ ans = ren (rf (spl r) K)) ∧ Buf w.heap.size I wr ∧ wr.ownsRow (w.heap.size + 1) 5 1 (.slice (some ⟨w.heap.size + 1, 0, none⟩) L.length s.size) L.length (Bs L) ∧ Below w.heap.size w wr)
      (fun _ i _ => s.size - (intOf i).toNat)
    case atStart => exact ⟨0, s.data.toList, [], [], Nat.zero_le _, rfl, rfl, by simp, Nat.le_refl _, Nat.le_refl _, ⟨rfl, by simp⟩, .inr ⟨r0, H0.out, HA.out⟩, hbuf1, hown1, hb1⟩
    case round =>
      clear hown1 hbuf1 hb1 hconv
      obtain ⟨p, I, L, K, hp, rfl, rfl, hLp, hI1, hI2, HK, HR, hbuf, hown, hb⟩ := hrel
      by_cases hlt : p < s.size
      · obtain ⟨r, HR1, HR2⟩ : ∃ r, Hid (I.drop p = 47 :: r) ∧ Hid (ans = ren (rf (spl r) K)) := by
          rcases HR.out with ⟨h, _⟩ | ⟨r, h1, h2⟩
          · omega
          · exact ⟨r, h1, h2⟩
        clear HR
        have hI0 : wr.cell? ⟨w.heap.size, p, none⟩ = some (.int .u8 47) := by
          have h := (hbuf.2 p (by omega)).1
          rw [show I.getD p 0 = 47 from drop_getD I p 47 r HR1.out 0] at h; exact h
        obtain ⟨b3, Hb3⟩ : ∃ b, Hid (b = k3 I p) := ⟨_, rfl⟩
        obtain ⟨b4, Hb4⟩ : ∃ b, Hid (b = k4 I p) := ⟨_, rfl⟩
        obtain ⟨b5, Hb5⟩ : ∃ b, Hid (b = k5 I p) := ⟨_, rfl⟩
        obtain ⟨b6, Hb6⟩ : ∃ b, Hid (b = k6 I p) := ⟨_, rfl⟩
        go_upto_region 6 with fail
        go_cut [45] from 21 to 44 (fun v wx => v = .bool false ∧ wr = wx)
        case first =>
          as_aux_lemma =>
            by_cases h3 : p + 3 ≤ s.size
            · go_wp2
              go_meet
              case rel => exact ⟨rfl, rfl⟩
            · go_wp2
              go_meet
              case rel => exact ⟨rfl, rfl⟩
        case rest =>
          obtain ⟨rfl, rfl⟩ := hcut
          go_upto_region 8 with fail
          go_cut [64] from 48 to 63 (fun v wx => v = .bool false ∧ wr = wx)
          case first =>
            as_aux_lemma =>
              by_cases h3 : p + 2 ≤ s.size
              · go_wp2
                go_meet
                case rel => exact ⟨rfl, rfl⟩
              · go_wp2
                go_meet
                case rel => exact ⟨rfl, rfl⟩
          case rest =>
            obtain ⟨rfl, rfl⟩ := hcut
            go_upto_region 10 with fail
            go_cut [91] from 67 to 90 (fun v wx => v = .bool b3 ∧ wr = wx)
            case first =>
              as_aux_lemma =>
                have hk : b3 = k3 I p := Hb3.out
                unfold k3 at hk
                by_cases h3 : p + 3 ≤ s.size
                · have _h3 : True := trivial
                  rw [decide_eq_true (by omega), Bool.true_and] at hk
                  have c1 := (hbuf.2 (p + 1) (by omega)).1
                  obtain ⟨x1, hx1⟩ : ∃ x, x = I.getD (p + 1) 0 := ⟨_, rfl⟩
                  rw [← hx1] at c1 hk
                  clear hx1
                  by_cases e1 : x1 = 46
                  · have eB1 : ((x1.toNat : Int) == 46) = true := beq_iff_eq.2 ((is46 _).1 e1)
                    rw [decide_eq_true e1, Bool.true_and] at hk
                    clear e1
                    have c2 := (hbuf.2 (p + 2) (by omega)).1
                    obtain ⟨x2, hx2⟩ : ∃ x, x = I.getD (p + 2) 0 := ⟨_, rfl⟩
                    rw [← hx2] at c2 hk
                    clear hx2
                    by_cases e2 : x2 = 47
                    · have eB2 : ((x2.toNat : Int) == 47) = true := beq_iff_eq.2 ((is47 _).1 e2)
                      rw [decide_eq_true e2] at hk
                      have HK2 : Hid (b3 = true) := hk
                      clear hk e2
                      go_wp2
                      go_meet
                      case rel => exact ⟨by rw [HK2.out], rfl⟩
                    · have eB2 : ((x2.toNat : Int) == 47) = false := beq_eq_false_iff_ne.2 (fun h => e2 ((is47 _).2 h))
                      rw [decide_eq_false e2] at hk
                      have HK2 : Hid (b3 = false) := hk
                      clear hk e2
                      go_wp2
                      go_meet
                      case rel => exact ⟨by rw [HK2.out], rfl⟩
                  · have eB1 : ((x1.toNat : Int) == 46) = false := beq_eq_false_iff_ne.2 (fun h => e1 ((is46 _).2 h))
                    rw [decide_eq_false e1, Bool.false_and] at hk
                    have HK2 : Hid (b3 = false) := hk
                    clear hk e1
                    go_wp2
                    go_meet
                    case rel => exact ⟨by rw [HK2.out], rfl⟩
                · have _h3 : True := trivial
                  rw [decide_eq_false (by omega), Bool.false_and] at hk
                  have HK2 : Hid (b3 = false) := hk
                  clear hk
                  go_wp2
                  go_meet
                  case rel => exact ⟨by rw [HK2.out], rfl⟩
            case rest =>
              obtain ⟨rfl, rfl⟩ := hcut
              cases b3
              rotate_left
              · as_aux_lemma =>
                  obtain ⟨r', hr'⟩ := k3_rest I p r HR1.out Hb3.out.symm
                  have HX : Hid (I.drop (p + 2) = 47 :: r') := drop_more I p [47, 46] (47 :: r') (by rw [HR1.out, hr']; rfl)
                  have HY : Hid (ans = ren (rf (spl r') K)) := by rw [HR2.out, hr', rf_dot_more]; exact rfl
                  have hp2 : p + 2 < s.size := by have := drop_len I (p + 2) 47 r' HX.out; omega
                  clear hr' HR1 HR2 Hb3 Hb4 Hb5 Hb6
                  go_wp2
                  go_roundw
                  case rel => exact ⟨p + 2, I, L, K, by omega, by go_num, rfl, by omega, hI1, hI2, HK, .inr ⟨r', HX.out, HY.out⟩, hbuf, hown, hb⟩
                  case measure => simp [intOf]; omega
              go_upto_region 12 with fail
              go_cut [110] from 94 to 109 (fun v wx => v = .bool b4 ∧ wr = wx)
              case first =>
                as_aux_lemma =>
                  have hk : b4 = k4 I p := Hb4.out
                  unfold k4 at hk
                  by_cases h3 : p + 2 = s.size
                  · have h3B : ((s.size : Int) - (p : Int) == 2) = true := beq_iff_eq.2 (by omega)
                    rw [decide_eq_true (by omega), Bool.true_and] at hk
                    have c1 := (hbuf.2 (p + 1) (by omega)).1
                    obtain ⟨x1, hx1⟩ : ∃ x, x = I.getD (p + 1) 0 := ⟨_, rfl⟩
                    rw [← hx1] at c1 hk
                    clear hx1
                    by_cases e1 : x1 = 46
                    · have eB1 : ((x1.toNat : Int) == 46) = true := beq_iff_eq.2 ((is46 _).1 e1)
                      rw [decide_eq_true e1] at hk
                      have HK2 : Hid (b4 = true) := hk
                      clear hk e1
                      go_wp2
                      go_meet
                      case rel => exact ⟨by rw [HK2.out], rfl⟩
                    · have eB1 : ((x1.toNat : Int) == 46) = false := beq_eq_false_iff_ne.2 (fun h => e1 ((is46 _).2 h))
                      rw [decide_eq_false e1] at hk
                      have HK2 : Hid (b4 = false) := hk
                      clear hk e1
                      go_wp2
                      go_meet
                      case rel => exact ⟨by rw [HK2.out], rfl⟩
                  · have h3B : ((s.size : Int) - (p : Int) == 2) = false := beq_eq_false_iff_ne.2 (by omega)
                    rw [decide_eq_false (by omega), Bool.false_and] at hk
                    have HK2 : Hid (b4 = false) := hk
                    clear hk
                    go_wp2
                    go_meet
                    case rel => exact ⟨by rw [HK2.out], rfl⟩
              case rest =>
                obtain ⟨rfl, rfl⟩ := hcut
                cases b4
                rotate_left
                · as_aux_lemma =>
                    have hr' := k4_rest I p r HR1.out Hb4.out.symm
                    have hl4 := drop_len I p 47 r HR1.out
                    rw [hr'] at hl4
                    have hp2 : p + 1 < s.size := by simp at hl4; omega
                    have hp3 : s.size ≤ p + 2 := by simp at hl4; omega
                    have HX : Hid ((I.set (p + 1) 47).drop (p + 1) = [47]) := by
                      have e1 : (I.set (p + 1) 47).drop (p + 1) = (I.drop (p + 1)).set 0 47 := by rw [List.drop_set]; simp
                      rw [show I.drop (p + 1) = [46] from drop_more I p [47] [46] (by rw [HR1.out, hr']; rfl)] at e1
                      rw [e1]; exact rfl
                    have HY : Hid (ans = ren (rf (spl []) K)) := by rw [HR2.out, hr', rf_dot_end]; exact rfl
                    have c1 := (hbuf.2 (p + 1) (by omega)).1
                    have f1 := (hbuf.2 (p + 1) (by omega)).2
                    have hbuf2 := hbuf.set (p + 1) (by omega) 47
                    clear hr' HR1 HR2 Hb4 Hb5 Hb6 hl4 hbuf
                    go_wp2
                    go_roundw
                    case rel => exact ⟨p + 1, I.set (p + 1) 47, L, K, by omega, by go_num, rfl, by omega, by simpa using hI1, by simpa using hI2, HK, .inr ⟨[], HX.out, HY.out⟩, hbuf2, ownsRow_setCell_below hown (Nat.lt_succ_self _) _, hb.setCell (Nat.le_refl _) _⟩
                    case measure => simp [intOf]; omega
                go_upto_region 15 with fail
                go_cut [149] from 117 to 148 (fun v wx => v = .bool b5 ∧ wr = wx)
                case first =>
                  as_aux_lemma =>
                    have hk : b5 = k5 I p := Hb5.out
                    unfold k5 at hk
                    by_cases h3 : p + 4 ≤ s.size
                    · have _h3 : True := trivial
                      rw [decide_eq_true (by omega), Bool.true_and] at hk
                      have c1 := (hbuf.2 (p + 1) (by omega)).1
                      obtain ⟨x1, hx1⟩ : ∃ x, x = I.getD (p + 1) 0 := ⟨_, rfl⟩
                      rw [← hx1] at c1 hk
                      clear hx1
                      by_cases e1 : x1 = 46
                      · have eB1 : ((x1.toNat : Int) == 46) = true := beq_iff_eq.2 ((is46 _).1 e1)
                        rw [decide_eq_true e1, Bool.true_and] at hk
                        clear e1
                        have c2 := (hbuf.2 (p + 2) (by omega)).1
                        obtain ⟨x2, hx2⟩ : ∃ x, x = I.getD (p + 2) 0 := ⟨_, rfl⟩
                        rw [← hx2] at c2 hk
                        clear hx2
                        by_cases e2 : x2 = 46
                        · have eB2 : ((x2.toNat : Int) == 46) = true := beq_iff_eq.2 ((is46 _).1 e2)
                          rw [decide_eq_true e2, Bool.true_and] at hk
                          clear e2
                          have c3 := (hbuf.2 (p + 3) (by omega)).1
                          obtain ⟨x3, hx3⟩ : ∃ x, x = I.getD (p + 3) 0 := ⟨_, rfl⟩
                          rw [← hx3] at c3 hk
                          clear hx3
                          by_cases e3 : x3 = 47
                          · have eB3 : ((x3.toNat : Int) == 47) = true := beq_iff_eq.2 ((is47 _).1 e3)
                            rw [decide_eq_true e3] at hk
                            have HK2 : Hid (b5 = true) := hk
                            clear hk e3
                            go_wp2
                            go_meet
                            case rel => exact ⟨by rw [HK2.out], rfl⟩
                          · have eB3 : ((x3.toNat : Int) == 47) = false := beq_eq_false_iff_ne.2 (fun h => e3 ((is47 _).2 h))
                            rw [decide_eq_false e3] at hk
                            have HK2 : Hid (b5 = false) := hk
                            clear hk e3
                            go_wp2
                            go_meet
                            case rel => exact ⟨by rw [HK2.out], rfl⟩
                        · have eB2 : ((x2.toNat : Int) == 46) = false := beq_eq_false_iff_ne.2 (fun h => e2 ((is46 _).2 h))
                          rw [decide_eq_false e2, Bool.false_and] at hk
                          have HK2 : Hid (b5 = false) := hk
                          clear hk e2
                          go_wp2
                          go_meet
                          case rel => exact ⟨by rw [HK2.out], rfl⟩
                      · have eB1 : ((x1.toNat : Int) == 46) = false := beq_eq_false_iff_ne.2 (fun h => e1 ((is46 _).2 h))
                        rw [decide_eq_false e1, Bool.false_and] at hk
                        have HK2 : Hid (b5 = false) := hk
                        clear hk e1
                        go_wp2
                        go_meet
                        case rel => exact ⟨by rw [HK2.out], rfl⟩
                    · have _h3 : True := trivial
                      rw [decide_eq_false (by omega), Bool.false_and] at hk
                      have HK2 : Hid (b5 = false) := hk
                      clear hk
                      go_wp2
                      go_meet
                      case rel => exact ⟨by rw [HK2.out], rfl⟩
                case rest =>
                  obtain ⟨rfl, rfl⟩ := hcut
                  cases b5
                  rotate_left
                  · as_aux_lemma =>
                      obtain ⟨r', hr'⟩ := k5_rest I p r HR1.out Hb5.out.symm
                      have HX : Hid (I.drop (p + 3) = 47 :: r') := drop_more I p [47, 46, 46] (47 :: r') (by rw [HR1.out, hr']; rfl)
                      have HY : Hid (ans = ren (rf (spl r') K.dropLast)) := by rw [HR2.out, hr', rf_dots_more]; exact rfl
                      have hp2 : p + 3 < s.size := by have := drop_len I (p + 3) 47 r' HX.out; omega
                      clear hr' HR1 HR2 Hb5 Hb6
                      have hpop := fun (wz : World) (hz : wz.ownsRow (w.heap.size + 1) 5 1 (.slice (some ⟨w.heap.size + 1, 0, none⟩) L.length s.size) L.length (Bs L)) => pop_any (w.heap.size + 1) s.size (w.heap.size + 1) K L wz HK.out.1 HK.out.2 hs (by omega) hz
                      have HPOP : Hid _ := hpop
                      clear hpop
                      obtain ⟨L', HL', hL'l⟩ : ∃ L', Hid (L' = ren K.dropLast) ∧ L'.length ≤ L.length := ⟨_, rfl, by rw [HK.out.1]; exact (ren_take K).2⟩
                      have HK' : Hid (L' = ren K.dropLast ∧ ∀ x ∈ K.dropLast, (47 : UInt8) ∉ x) := ⟨HL'.out, fun x hx => HK.out.2 x (List.dropLast_subset _ hx)⟩
                      have hown2 : ∀ (wz : World), wz.ownsRow (w.heap.size + 1) 5 1 (.slice (some ⟨w.heap.size + 1, 0, none⟩) L.length s.size) L.length (Bs L) → wz.ownsRow (w.heap.size + 1) 5 1 (.slice (some ⟨w.heap.size + 1, 0, none⟩) L'.length s.size) L'.length (Bs L') := by
                        intro wz hz
                        have h := own_cut hz hL'l
                        rw [show (Bs L).take L'.length = Bs L' from by rw [HL'.out, HK.out.1]; exact (ren_take K).1] at h
                        exact h
                      have HOWN2 : Hid _ := hown2
                      clear hown2
                      go_wp2_with fail
                      refine (HPOP.out _ hown).mono ?_
                      rintro en w5 ⟨rfl, rfl⟩
                      rw [← HL'.out]
                      have hown3 := HOWN2.out _ hown
                      clear hown HPOP HOWN2
                      go_wp2
                      go_roundw
                      case rel => exact ⟨p + 3, I, L', K.dropLast, by omega, by go_num, rfl, by omega, hI1, hI2, HK', .inr ⟨r', HX.out, HY.out⟩, hbuf, hown3, hb⟩
                      case measure => simp [intOf]; omega
                  go_upto_region 18 with fail
                  go_cut [178] from 154 to 177 (fun v wx => v = .bool b6 ∧ wr = wx)
                  case first =>
                    as_aux_lemma =>
                      have hk : b6 = k6 I p := Hb6.out
                      unfold k6 at hk
                      by_cases h3 : p + 3 = s.size
                      · have h3B : ((s.size : Int) - (p : Int) == 3) = true := beq_iff_eq.2 (by omega)
                        rw [decide_eq_true (by omega), Bool.true_and] at hk
                        have c1 := (hbuf.2 (p + 1) (by omega)).1
                        obtain ⟨x1, hx1⟩ : ∃ x, x = I.getD (p + 1) 0 := ⟨_, rfl⟩
                        rw [← hx1] at c1 hk
                        clear hx1
                        by_cases e1 : x1 = 46
                        · have eB1 : ((x1.toNat : Int) == 46) = true := beq_iff_eq.2 ((is46 _).1 e1)
                          rw [decide_eq_true e1, Bool.true_and] at hk
                          clear e1
                          have c2 := (hbuf.2 (p + 2) (by omega)).1
                          obtain ⟨x2, hx2⟩ : ∃ x, x = I.getD (p + 2) 0 := ⟨_, rfl⟩
                          rw [← hx2] at c2 hk
                          clear hx2
                          by_cases e2 : x2 = 46
                          · have eB2 : ((x2.toNat : Int) == 46) = true := beq_iff_eq.2 ((is46 _).1 e2)
                            rw [decide_eq_true e2] at hk
                            have HK2 : Hid (b6 = true) := hk
                            clear hk e2
                            go_wp2
                            go_meet
                            case rel => exact ⟨by rw [HK2.out], rfl⟩
                          · have eB2 : ((x2.toNat : Int) == 46) = false := beq_eq_false_iff_ne.2 (fun h => e2 ((is46 _).2 h))
                            rw [decide_eq_false e2] at hk
                            have HK2 : Hid (b6 = false) := hk
                            clear hk e2
                            go_wp2
                            go_meet
                            case rel => exact ⟨by rw [HK2.out], rfl⟩
                        · have eB1 : ((x1.toNat : Int) == 46) = false := beq_eq_false_iff_ne.2 (fun h => e1 ((is46 _).2 h))
                          rw [decide_eq_false e1, Bool.false_and] at hk
                          have HK2 : Hid (b6 = false) := hk
                          clear hk e1
                          go_wp2
                          go_meet
                          case rel => exact ⟨by rw [HK2.out], rfl⟩
                      · have h3B : ((s.size : Int) - (p : Int) == 3) = false := beq_eq_false_iff_ne.2 (by omega)
                        rw [decide_eq_false (by omega), Bool.false_and] at hk
                        have HK2 : Hid (b6 = false) := hk
                        clear hk
                        go_wp2
                        go_meet
                        case rel => exact ⟨by rw [HK2.out], rfl⟩
                  case rest =>
                    obtain ⟨rfl, rfl⟩ := hcut
                    cases b6
                    rotate_left
                    · as_aux_lemma =>
                        have hr' := k6_rest I p r HR1.out Hb6.out.symm
                        have hl4 := drop_len I p 47 r HR1.out
                        rw [hr'] at hl4
                        have hp2 : p + 2 < s.size := by simp at hl4; omega
                        have hp3 : s.size ≤ p + 3 := by simp at hl4; omega
                        have HX : Hid ((I.set (p + 2) 47).drop (p + 2) = [47]) := by
                          have e1 : (I.set (p + 2) 47).drop (p + 2) = (I.drop (p + 2)).set 0 47 := by rw [List.drop_set]; simp
                          rw [show I.drop (p + 2) = [46] from drop_more I p [47, 46] [46] (by rw [HR1.out, hr']; rfl)] at e1
                          rw [e1]; exact rfl
                        have HY : Hid (ans = ren (rf (spl []) K.dropLast)) := by rw [HR2.out, hr', rf_dots_end]; exact rfl
                        have c1 := (hbuf.2 (p + 2) (by omega)).1
                        have f1 := (hbuf.2 (p + 2) (by omega)).2
                        have hbuf2 := hbuf.set (p + 2) (by omega) 47
                        clear hr' HR1 HR2 Hb6 hl4 hbuf
                        have hpop := fun (wz : World) (hz : wz.ownsRow (w.heap.size + 1) 5 1 (.slice (some ⟨w.heap.size + 1, 0, none⟩) L.length s.size) L.length (Bs L)) => pop_any (w.heap.size + 1) s.size (w.heap.size + 1) K L wz HK.out.1 HK.out.2 hs (by omega) hz
                        have HPOP : Hid _ := hpop
                        clear hpop
                        obtain ⟨L', HL', hL'l⟩ : ∃ L', Hid (L' = ren K.dropLast) ∧ L'.length ≤ L.length := ⟨_, rfl, by rw [HK.out.1]; exact (ren_take K).2⟩
                        have HK' : Hid (L' = ren K.dropLast ∧ ∀ x ∈ K.dropLast, (47 : UInt8) ∉ x) := ⟨HL'.out, fun x hx => HK.out.2 x (List.dropLast_subset _ hx)⟩
                        have hown2 : ∀ (wz : World), wz.ownsRow (w.heap.size + 1) 5 1 (.slice (some ⟨w.heap.size + 1, 0, none⟩) L.length s.size) L.length (Bs L) → wz.ownsRow (w.heap.size + 1) 5 1 (.slice (some ⟨w.heap.size + 1, 0, none⟩) L'.length s.size) L'.length (Bs L') := by
                          intro wz hz
                          have h := own_cut hz hL'l
                          rw [show (Bs L).take L'.length = Bs L' from by rw [HL'.out, HK.out.1]; exact (ren_take K).1] at h
                          exact h
                        have HOWN2 : Hid _ := hown2
                        clear hown2
                        have hown9 : (wr.setCell ⟨w.heap.size, p + 2, none⟩ (.int .u8 47)).ownsRow (w.heap.size + 1) 5 1 (.slice (some ⟨w.heap.size + 1, 0, none⟩) L.length s.size) L.length (Bs L) := ownsRow_setCell_below hown (Nat.lt_succ_self _) _
                        have hb9 : Below w.heap.size w (wr.setCell ⟨w.heap.size, p + 2, none⟩ (.int .u8 47)) := hb.setCell (Nat.le_refl _) _
                        clear hown hb
                        go_wp2_with fail
                        refine (HPOP.out _ hown9).mono ?_
                        rintro en w5 ⟨rfl, rfl⟩
                        rw [← HL'.out]
                        have hown3 := HOWN2.out _ hown9
                        clear hown9 HPOP HOWN2
                        go_wp2
                        go_roundw
                        case rel => exact ⟨p + 2, I.set (p + 2) 47, L', K.dropLast, by omega, by go_num, rfl, by omega, by simpa using hI1, by simpa using hI2, HK', .inr ⟨[], HX.out, HY.out⟩, hbuf2, hown3, hb9⟩
                        case measure => simp [intOf]; omega
                    go_upto_region 22 with fail
                    go_cut [195] from 187 to 194 (fun v wx => v = .bool false ∧ wr = wx)
                    case first =>
                      as_aux_lemma =>
                        by_cases h3 : p + 1 = s.size
                        · have h3B : ((s.size : Int) - (p : Int) == 1) = true := beq_iff_eq.2 (by omega)
                          go_wp2
                          go_meet
                          case rel => exact ⟨rfl, rfl⟩
                        · have h3B : ((s.size : Int) - (p : Int) == 1) = false := beq_eq_false_iff_ne.2 (by omega)
                          go_wp2
                          go_meet
                          case rel => exact ⟨rfl, rfl⟩
                    case rest =>
                      obtain ⟨rfl, rfl⟩ := hcut
                      go_upto_region 24 with fail
                      go_cut [214] from 198 to 213 (fun v wx => v = .bool false ∧ wr = wx)
                      case first =>
                        as_aux_lemma =>
                          by_cases h3 : p + 2 = s.size
                          · have h3B : ((s.size : Int) - (p : Int) == 2) = true := beq_iff_eq.2 (by omega)
                            go_wp2
                            go_meet
                            case rel => exact ⟨rfl, rfl⟩
                          · have h3B : ((s.size : Int) - (p : Int) == 2) = false := beq_eq_false_iff_ne.2 (by omega)
                            go_wp2
                            go_meet
                            case rel => exact ⟨rfl, rfl⟩
                      case rest =>
                        obtain ⟨rfl, rfl⟩ := hcut
                        have HND : Hid (isDot (sg I p) = false) := sg_nodot I p r HR1.out Hb3.out.symm Hb4.out.symm Hb5.out.symm Hb6.out.symm
                        obtain ⟨sgm, HS, hsl1, hsl2⟩ : ∃ x, Hid (x = sg I p) ∧ p + 1 + x.length ≤ s.size ∧ x.length ≤ s.size := ⟨_, rfl, by have := sg_len I p r HR1.out; omega, by have := sg_len I p r HR1.out; omega⟩
                        clear Hb3 Hb4 Hb5 Hb6
                        go_upto_block 2 with fail
                        go_cut [7] from 225 to 237 (fun v wx => v = .int .i64 ((p : Int) + 1 + sgm.length) ∧ wr = wx)
                        case first =>
                          as_aux_lemma =>
                            go_wp2_with fail
                            go_loop [7] (fun v => ∃ q : Nat, p + 1 ≤ q ∧ q ≤ p + 1 + sgm.length ∧ v = .int .i64 q) (fun v => s.size - (intOf v).toNat)
                            case atStart => exact ⟨p + 1, Nat.le_refl _, by omega, by go_num⟩
                            case round =>
                              obtain ⟨q, hq1, hq2, rfl⟩ := hrel
                              by_cases hq : q < p + 1 + sgm.length
                              · have hc := (hbuf.2 q (by omega)).1
                                have hne : I.getD q 0 ≠ 47 := sg_in I p r HR1.out q hq1 (by rw [← HS.out]; exact hq)
                                obtain ⟨x, hx⟩ : ∃ x, x = I.getD q 0 := ⟨_, rfl⟩
                                rw [← hx] at hc hne
                                clear hx
                                have hB : ((x.toNat : Int) != 47) = true := by rw [bne_iff_ne]; exact fun h => hne ((is47 _).2 h)
                                clear hne
                                go_wp2
                                go_round
                                case rel => exact ⟨q + 1, by omega, by omega, by go_num⟩
                                case measure => simp [intOf]; omega
                              · obtain rfl : q = p + 1 + sgm.length := by omega
                                by_cases hqs : p + 1 + sgm.length < s.size
                                · have hc := (hbuf.2 (p + 1 + sgm.length) (by omega)).1
                                  have h47 : I.getD (p + 1 + sgm.length) 0 = 47 := by rw [HS.out]; exact sg_stop I p r HR1.out (by rw [← HS.out]; omega)
                                  rw [h47] at hc
                                  clear h47
                                  go_wp2
                                  go_meet
                                  case rel => exact ⟨by go_num, rfl⟩
                                · go_wp2
                                  go_meet
                                  case rel => exact ⟨by go_num, rfl⟩
                        case rest =>
                          obtain ⟨rfl, rfl⟩ := hcut
                          have HNEW : Hid (∀ j u, (Bs (47 :: sgm))[j]? = some u → wr.cell? ((⟨w.heap.size, p, none⟩ : Addr).add j) = some u) := by
                            intro j u hu
                            have hj : j < 1 + sgm.length := by
                              have := (List.getElem?_eq_some_iff.1 hu).1
                              rw [Bs_len, List.length_cons] at this; omega
                            have h1 := sg_piece I p r HR1.out j (by rw [← HS.out]; exact hj)
                            rw [← HS.out] at h1
                            have h2 : (Bs (47 :: sgm))[j]? = some (.int .u8 (I.getD (p + j) 0).toNat) := by
                              unfold Bs; rw [List.getElem?_map, h1]; rfl
                            rw [h2] at hu
                            rw [Addr.add_lit, (hbuf.2 (p + j) (by omega)).1]
                            exact hu
                          have HR3 : Hid ((p + 1 + sgm.length = s.size ∧ ans = L ++ 47 :: sgm) ∨ ∃ r', I.drop (p + 1 + sgm.length) = 47 :: r' ∧ ans = ren (rf (spl r') (K ++ [sgm]))) := by
                            have hl := drop_len I p 47 r HR1.out
                            have hnd := HND.out
                            have hcl := sg_clean I p
                            rw [← HS.out] at hnd hcl
                            rcases sg_rest I p r HR1.out with e | ⟨r', e⟩
                            · left
                              rw [← HS.out] at e
                              refine ⟨by rw [← e]; omega, ?_⟩
                              rw [HR2.out, e, rf_seg_end sgm K hcl hnd, ren_snoc, HK.out.1]
                            · right
                              rw [← HS.out] at e
                              refine ⟨r', ?_, ?_⟩
                              · have := drop_more I p (47 :: sgm) (47 :: r') (by rw [HR1.out, e]; rfl)
                                rw [List.length_cons] at this
                                rw [show p + 1 + sgm.length = p + (sgm.length + 1) from by omega]; exact this
                              · rw [HR2.out, e, rf_seg_more sgm r' K hcl hnd]
                          have HK2 : Hid (L ++ 47 :: sgm = ren (K ++ [sgm]) ∧ ∀ x ∈ K ++ [sgm], (47 : UInt8) ∉ x) := by
                            refine ⟨by rw [ren_snoc, HK.out.1], fun x hx => ?_⟩
                            simp only [List.mem_append, List.mem_cons, List.not_mem_nil, or_false] at hx
                            rcases hx with hx | rfl
                            · exact HK.out.2 x hx
                            · rw [HS.out]; exact sg_clean I p
                          obtain ⟨mm, hm1, hm2⟩ : ∃ mm, Hid (mm = p + 1 + sgm.length - p) ∧ mm = 1 + sgm.length := ⟨_, rfl, by omega⟩
                          have HM2 : Hid _ := hm2
                          clear hm2 HND HR1 HR2
                          go_wp2_with (at_builtin; refine wpList_append_fits _ rfl _ _ 25 rfl (w.heap.size + 1) 5 i0 1 Tryd.underlying25 hi hz1 (w.heap.size + 1) L.length s.size _ rfl hown ⟨w.heap.size, p, none⟩ (p + 1 + sgm.length - p) (capI - p) (Bs (47 :: sgm)) rfl (by rw [Bs_len, List.length_cons]; omega) HNEW.out (Bs_one _) (by omega) ?_)
                          intro w6 hown6 hgrow
                          rw [Bs_app] at hown6
                          have hlen6 : L.length + (p + 1 + sgm.length - p) = (L ++ 47 :: sgm).length := by rw [List.length_append, List.length_cons]; omega
                          rw [hlen6] at hown6 ⊢
                          have hb6 : Below w.heap.size w w6 := hb.grown hgrow hb.size (fun k h => by cases h; omega)
                          have hbuf6 : Buf w.heap.size I w6 := hbuf.keep hgrow.size (hgrow.block w.heap.size hbuf.1 (by simp))
                          obtain ⟨L2, HL2, hL2⟩ : ∃ L2, Hid (L2 = L ++ 47 :: sgm) ∧ L2.length ≤ p + 1 + sgm.length := ⟨_, rfl, by rw [← hlen6]; omega⟩
                          rw [← HL2.out] at hown6 HR3 HK2 ⊢
                          clear hgrow hbuf hown hb hlen6 hm1 HM2 HNEW HK hI0
                          go_wp2
                          go_roundw
                          case rel => exact ⟨p + 1 + sgm.length, I, L2, K ++ [sgm], by omega, by go_num, rfl, hL2, hI1, hI2, HK2, HR3, hbuf6, hown6, hb6⟩
                          case measure => simp [intOf]; omega
      · obtain rfl : p = s.size := by omega
        have hans : ans = L := by
          rcases HR.out with ⟨_, h⟩ | ⟨r, h1, _⟩
          · exact h
          · have := drop_len I s.size 47 r h1; omega
        subst hans
        clear HR HA
        have hconv := conv_row hown
        go_wp2
        go_ret
        exact ⟨rfl, hb⟩
end Go.Proofs.Qxb6601701aDoor
