import Derived.Test.Qxb6601974aDoorW6
namespace Go.Proofs.Qxb6601974aDoor
open Go.RowKit

def hidB (Sp : List (Nat × Nat)) (p l : Nat) : Bool := (List.range l).any fun i => inSp Sp (p + i)
def Pc (S : List (List UInt8)) (Sp : List (Nat × Nat)) (m k : Nat) : List Value :=
  (List.range k).flatMap fun j => [sc (S.getD j []), .bool (hidB Sp (st S m j) (S.getD j []).length)]

theorem Pc_zero (S : List (List UInt8)) (Sp : List (Nat × Nat)) (m : Nat) : Pc S Sp m 0 = [] := by simp [Pc]
theorem Pc_succ (S : List (List UInt8)) (Sp : List (Nat × Nat)) (m k : Nat) : Pc S Sp m k ++ [sc (S.getD k []), .bool (hidB Sp (st S m k) (S.getD k []).length)] = Pc S Sp m (k + 1) := by
  unfold Pc
  rw [List.range_succ, List.flatMap_append]
  simp
theorem Pc_len (S : List (List UInt8)) (Sp : List (Nat × Nat)) (m : Nat) : ∀ k, (Pc S Sp m k).length = 2 * k
  | 0 => rfl
  | k + 1 => by rw [← Pc_succ, List.length_append, Pc_len S Sp m k]; simp; omega
theorem Pc_get (S : List (List UInt8)) (Sp : List (Nat × Nat)) (m j : Nat) : ∀ k, j < k → (Pc S Sp m k)[2 * j]? = some (sc (S.getD j [])) ∧ (Pc S Sp m k)[2 * j + 1]? = some (.bool (hidB Sp (st S m j) (S.getD j []).length))
  | 0, h => absurd h (Nat.not_lt_zero _)
  | k + 1, h => by
    rw [← Pc_succ]
    by_cases e : j = k
    · subst e
      rw [List.getElem?_append_right (by rw [Pc_len]; omega), List.getElem?_append_right (by rw [Pc_len]; omega), Pc_len]
      rw [show 2 * j - 2 * j = 0 from by omega, show 2 * j + 1 - 2 * j = 1 from by omega]
      exact ⟨rfl, rfl⟩
    · rw [List.getElem?_append_left (by rw [Pc_len]; omega), List.getElem?_append_left (by rw [Pc_len]; omega)]
      exact Pc_get S Sp m j k (by omega)

theorem pcs_len (s sep : ByteArray) : (pcs s sep).length ≤ s.size + 1 := by
  unfold pcs
  split
  · unfold chunks; rw [chunk_len]; have := Lib.runeCount_le s; unfold Lib.runeCount at this; omega
  · have hd : (Lib.splitB sep 0 (Lib.countB s sep) s).map (·.data.toList) = Lib.split s.data.toList sep.data.toList := by
      rw [Lib.splitB_data]; rfl
    rw [← hd, List.length_map, Lib.splitB_all sep (by omega) 0 _ s rfl]
    have := Lib.countB_le sep (by omega) _ s (Nat.le_refl _)
    omega

theorem Tryd.info38 : (Tryd.prog.info? 38).map (fun i => (i.zero, i.size, i.bytes)) = some (some (.agg #[.string ⟨#[]⟩, .bool false]), 2, 24) := by kernel_rfl

theorem two_one (x : List UInt8) (h : Bool) : ∀ u ∈ [sc x, .bool h], u.oneCell' = true := by
  intro u hu
  simp at hu
  rcases hu with rfl | rfl <;> rfl
theorem two_new (w : World) (x : List UInt8) (h : Bool) : ∀ j u, [sc x, .bool h][j]? = some u → (w.alloc (.cells #[sc x, .bool h] 38)).cell? ((⟨w.heap.size, 0, none⟩ : Addr).add j) = some u := cell_two_new _ _ _ _

theorem hid_none (p l : Nat) : hidB [] p l = false := by
  unfold hidB
  rw [List.any_eq_false]
  intro i _
  simp [inSp]

set_option maxHeartbeats 2000000 in
set_option maxRecDepth 100000 in
theorem vsplit11 (ao : Option Addr) (n cap : Nat) (vs : List (List UInt8)) (s sep : ByteArray) (m : Int) (w : World) (hrow : SRow w ao n vs) (hn : n ≤ 1048576) (hs : s.size ≤ 1048576) (hsp : sep.size ≤ 1048576)
    (hv : ∀ i, i < n → (vs.getD i []).length ≠ 0 ∧ (vs.getD i []).length ≤ 1048576) (hm : w.cell? ⟨0, 0, none⟩ = some (.int .i64 m)) (hT : Lib.Utf8Tabs 1 2 w) :
    Calls Tryd.prog 11 #[.agg #[.slice ao n cap], .string s, .string sep] w fun e w' => ∃ v base, e = .returned v ∧
      w'.ownsRow base 38 2 v (pcs s sep).length (Pc (pcs s sep) (spans s.data.toList vs) sep.size (pcs s sep).length) ∧ w.heap.size ≤ base ∧ Below w.heap.size w w' := by
  have HV : Hid _ := hv
  have HRW : Hid _ := hrow
  have HM : Hid _ := hm
  have HT : Hid _ := hT
  have h0 : 0 < w.heap.size := pos_of_cell hm
  clear hv hrow hm hT
  have hSl := pcs_len s sep
  have hgl := gl_st sep.data.toList (pcs s sep) s.data.toList (gl_pcs s sep)
  obtain ⟨S, HS⟩ : ∃ S, Hid (S = pcs s sep) := ⟨_, rfl⟩
  obtain ⟨Sp, HSp⟩ : ∃ Sp, Hid (Sp = spans s.data.toList vs) := ⟨_, rfl⟩
  rw [← HS.out] at hSl hgl ⊢
  rw [← HSp.out]
  rw [show sep.data.toList.length = sep.size from rfl, show s.data.toList.length = s.size from rfl] at hgl
  have HG : Hid _ := hgl
  clear hgl
  obtain ⟨i0, hi, hz0, hz1, hz2⟩ := info_parts Tryd.info38
  have hneq := fun (w : World) (a : Option Addr) (n c : Nat) => run_neq_slice_nil (P := Tryd.prog) w 35 4 a n c Tryd.underlying35
  go_enter Tryd.func11, Tryd.ntmps11
  go_wp2_with fail
  have hbel : Below w.heap.size w (w.alloc (.cells #[.slice ao n cap] 29)) := (Below.refl _ _).alloc (Nat.le_refl _) _
  obtain ⟨w2, hw2⟩ : ∃ w2, w2 = w.alloc (.cells #[.slice ao n cap] 29) := ⟨_, rfl⟩
  rw [← hw2] at hbel ⊢
  clear hw2
  refine (covered19 ao n cap vs s m w2 (SRow.later HRW.out hbel) hn hs HV.out ((hbel.cell (p := ⟨0, 0, none⟩) h0).trans HM.out)).mono ?_
  rintro en w3 ⟨cv, rfl, hcov, hb3⟩
  rw [← HSp.out] at hcov
  have hb3' : Below w.heap.size w w3 := hbel.trans (hb3.mono hbel.size)
  clear hb3 hbel
  obtain ⟨aoc, lc, cc, rfl, hform⟩ := Cov.form hcov
  have HF : Hid _ := hform
  clear hcov hform
  go_wp2_with fail
  refine (split20 s sep m w3 hs ((hb3'.cell (p := ⟨0, 0, none⟩) h0).trans HM.out) (Utf8Tabs_below HT.out hb3')).mono ?_
  rintro en w4 ⟨b4, rfl, hrow4, hb4⟩
  rw [← HS.out] at hrow4 ⊢
  have hb4' : Below w.heap.size w w4 := hb3'.trans (hb4.mono hb3'.size)
  have HF4 : Hid ((aoc = none ∧ Sp = []) ∨ ∃ b, aoc = some ⟨b, 0, none⟩ ∧ lc = s.size ∧ cc = s.size ∧ VBuf b (Fl s.size Sp) w4) := by
    rcases HF.out with h | ⟨b, h1, h2, h3, _, h5⟩
    · exact .inl h
    · exact .inr ⟨b, h1, h2, h3, h5.keep hb4.size (hb4.block b h5.1)⟩
  have HR4 : Hid (SRow w4 (some ⟨b4, 0, none⟩) S.length S) := hrow4
  clear hb4 HF hrow4 hb3'
  have hw4 : w.heap.size ≤ w4.heap.size := hb4'.size
  go_wp2_with fail
  go_loopw [8, 9, 21] (fun v p i wr => ∃ (k : Nat) (ap : Option Addr) (cp : Nat), k ≤ S.length ∧ i = .int .i64 k ∧ v = .slice ap k cp ∧ p = .int .i64 (st S sep.size k) ∧ wr.ownsRow w4.heap.size 38 2 (.slice ap k cp) k (Pc S Sp sep.size k) ∧ Below w4.heap.size w4 wr) (fun _ _ i _ => S.length - (intOf i).toNat)
  case atStart => exact ⟨0, none, 0, Nat.zero_le _, rfl, rfl, by rw [st_zero]; rfl, World.ownsRow_nil _ _ _ _, Below.refl _ _⟩
  case round =>
    obtain ⟨k, ap, cp, hk, rfl, rfl, rfl, hown, hb⟩ := hrel
    by_cases hlt : k < S.length
    · obtain ⟨b9, off, hao, hcell⟩ := SRow.at (SRow.later HR4.out hb) k hlt
      cases hao
      rw [Nat.zero_add] at hcell
      have hroom := (HG.out k hlt).1
      have hsucc := st_succ S sep.size k hlt
      have hpc := Pc_succ S Sp sep.size k
      obtain ⟨x, Hx⟩ : ∃ x, Hid (x = S.getD k []) := ⟨_, rfl⟩
      obtain ⟨p, Hp⟩ : ∃ p, Hid (p = st S sep.size k) := ⟨_, rfl⟩
      rw [← Hx.out, ← Hp.out] at hpc hroom hsucc
      rw [← Hx.out] at hcell
      rw [← Hp.out]
      obtain ⟨hd, Hhd⟩ : ∃ hd, Hid (hd = hidB Sp p x.length) := ⟨_, rfl⟩
      rw [← Hhd.out] at hpc
      have HPC : Hid _ := hpc
      have HSU : Hid (st S sep.size (k + 1) = p + x.length + sep.size) := hsucc
      clear hpc hsucc Hx Hp
      unfold sc at hcell
      go_upto_region 8 with fail
      clear hcell
      go_cut [13] from 29 to 37 (fun v13 wx => v13 = .bool hd ∧ wr = wx)
      case first =>
        as_aux_lemma =>
          rcases HF4.out with ⟨rfl, hS⟩ | ⟨b, rfl, rfl, rfl, hvb⟩
          · have hhd : hd = false := by rw [Hhd.out, hS]; exact hid_none _ _
            subst hhd
            go_wp2
            go_meet
            case rel => exact ⟨rfl, rfl⟩
          · have hcells : ∀ i, i < x.length → wr.cell? ⟨b, p + i, none⟩ = some (.bool (inSp Sp (p + i))) := by
              intro i hix
              rw [hb.cell (p := ⟨b, p + i, none⟩) hvb.1, (hvb.2 (p + i) (by rw [Fl_len]; omega)).1, Fl_get s.size Sp (p + i) (by omega)]
            have HCE : Hid _ := hcells
            clear hcells hvb
            by_cases hpe : p < s.size
            · go_wp2_with fail
              refine (contains21 b p x.length _ (fun i => inSp Sp (p + i)) _ (by omega) HCE.out).mono ?_
              rintro en w6 ⟨rfl, rfl⟩
              have HH : Hid ((List.range x.length).any (fun i => inSp Sp (p + i)) = hd) := Hhd.out.symm
              rw [HH.out]
              go_wp2
              go_meet
              case rel => exact ⟨rfl, rfl⟩
            · have hpe2 : p = s.size := by omega
              subst hpe2
              clear HCE
              have hx0 : x.length ≤ 0 := by omega
              go_wp2_with fail
              refine (contains21 b 0 0 0 (fun i => inSp Sp (s.size + i)) wr (by omega) (fun i h => absurd h (Nat.not_lt_zero _))).mono ?_
              rintro en w6 ⟨rfl, rfl⟩
              have hhd : hd = false := by rw [Hhd.out, (by omega : x.length = 0)]; rfl
              subst hhd
              rw [show (List.range 0).any (fun i => inSp Sp (s.size + i)) = false from rfl]
              go_wp2
              go_meet
              case rel => exact ⟨rfl, rfl⟩
      case rest =>
        obtain ⟨rfl, rfl⟩ := hcut
        clear HF4
        go_wp2_with (at_builtin; refine wpList_append_own _ rfl _ _ 27 rfl w4.heap.size 38 i0 (.agg #[.string ⟨#[]⟩, .bool false]) 2 24 Tryd.underlying27 hi hz0 hz1 hz2 rfl (by decide) _ _ _ rfl (hown.alloc _) ⟨wr.heap.size, 0, none⟩ 1 1 [sc x, .bool hd] rfl rfl (two_new _ _ _) (two_one _ _) (by unfold maxLen; omega) (by omega) (by have := hb.size; simp; omega) ?_)
        intro v' w5 hown5 hgrow _
        rw [HPC.out] at hown5
        have hb5 : Below w4.heap.size w4 w5 := (hb.alloc (by have := hb.size; omega) _).grown hgrow (by have := hb.size; simp; omega) (fun k h => (hown.lt k h).1)
        obtain ⟨g, cap', hv⟩ : ∃ g cap', v' = .slice (some ⟨g, 0, none⟩) (k + 1) cap' := by
          rcases Joins.ownsRow_forms hown5 with ⟨_, h0⟩ | ⟨g, cap', h⟩
          · omega
          · exact ⟨g, cap', h⟩
        rw [hv] at hown5 ⊢
        clear hgrow hown hb hv
        go_wp2
        go_roundw
        case rel => exact ⟨k + 1, some ⟨g, 0, none⟩, cap', by omega, by go_num, rfl, by rw [HSU.out]; go_num, hown5, hb5⟩
        case measure => simp [intOf]; omega
    · obtain rfl : k = S.length := by omega
      have hbx : Below w.heap.size w wr := hb4'.trans (hb.mono hw4)
      clear hb HF4
      go_wp2
      go_ret
      exact ⟨_, w4.heap.size, rfl, hown, hw4, hbx⟩
end Go.Proofs.Qxb6601974aDoor
