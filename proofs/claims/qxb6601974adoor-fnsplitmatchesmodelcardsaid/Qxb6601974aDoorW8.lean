import Derived.Test.Qxb6601974aDoorW7
namespace Go.Proofs.Qxb6601974aDoor
open Go.RowKit

/-- where the law's walk stands behind k pieces -/
def posk (S : List (List UInt8)) (m : Nat) : Nat → Nat
  | 0 => 0
  | k + 1 => st S m k + (S.getD k []).length

theorem gl_tail (sep : List UInt8) (S : List (List UInt8)) (t : List UInt8) (h : gl sep S = t) (k : Nat) (hk : k < S.length) :
    t.drop (st S sep.length k) = S.getD k [] ++ tl sep (S.drop (k + 1)) := by
  rw [(gl_st sep S t h k hk).2, List.drop_eq_getElem_cons hk]
  simp [gl, hk]

theorem occ_text (sep : List UInt8) (S : List (List UInt8)) (t : List UInt8) (h : gl sep S = t) (k : Nat) (hk : k < S.length) : Lib.occAt t (S.getD k []) (st S sep.length k) = true := by
  unfold Lib.occAt
  rw [gl_tail sep S t h k hk, List.isPrefixOf_iff_prefix]
  exact List.prefix_append _ _

theorem pos_drop (sep : List UInt8) (S : List (List UInt8)) (t : List UInt8) (h : gl sep S = t) (k : Nat) (hk : k < S.length) : t.drop (posk S sep.length (k + 1)) = tl sep (S.drop (k + 1)) := by
  show t.drop (st S sep.length k + (S.getD k []).length) = _
  rw [← List.drop_drop, gl_tail sep S t h k hk, List.drop_left]

theorem occ_sep (sep : List UInt8) (S : List (List UInt8)) (t : List UInt8) (h : gl sep S = t) (k : Nat) (hk : k + 1 < S.length) : Lib.occAt t sep (posk S sep.length (k + 1)) = true := by
  unfold Lib.occAt
  rw [pos_drop sep S t h k (by omega), tl_of_ne sep _ (by rw [ne_eq, List.drop_eq_nil_iff]; omega), List.isPrefixOf_iff_prefix]
  exact List.prefix_append _ _

theorem pos_le (sep : List UInt8) (S : List (List UInt8)) (t : List UInt8) (h : gl sep S = t) (k : Nat) (hk : k ≤ S.length) : posk S sep.length k ≤ t.length := by
  cases k with
  | zero => exact Nat.zero_le _
  | succ k => exact (gl_st sep S t h k hk).1

theorem pos_end (sep : List UInt8) (S : List (List UInt8)) (t : List UInt8) (h : gl sep S = t) : posk S sep.length S.length = t.length := by
  have hle := pos_le sep S t h S.length (Nat.le_refl _)
  cases hl : S.length with
  | zero =>
    have : S = [] := List.eq_nil_of_length_eq_zero hl
    subst this
    subst h
    rfl
  | succ k =>
    rw [hl] at hle
    have h1 := congrArg List.length (pos_drop sep S t h k (by omega))
    rw [List.drop_eq_nil_of_le (by omega : S.length ≤ k + 1), List.length_drop] at h1
    simp [tl] at h1
    omega

theorem bytes15b (ao : Option Addr) (n cap : Nat) (vs : List (List UInt8)) (s sep : ByteArray) (w : World) (hrow : SRow w ao n vs) (hn : n ≤ 9223372036854775807) (hv : ∀ i, i < n → (vs.getD i []).length ≤ 9223372036854775807)
    (h1 : s.size ≤ 9223372036854775807) (h2 : sep.size ≤ 9223372036854775807) :
    Calls Tryd.prog 15 #[.slice ao n cap, .string s, .string sep] w fun e w' => e = .returned (.bool (decide (n + lens vs + s.size + sep.size ≤ 1048576))) ∧ w' = w := by
  have h := bytes15 ao n cap vs s.data.toList sep.data.toList w hrow hn hv h1 h2
  rw [Lib.mk_data, Lib.mk_data] at h
  exact h

theorem at16b (s : ByteArray) (x : List UInt8) (p : Nat) (w : World) (hp : p ≤ s.size) (hs : s.size ≤ 1048576) (hv : x.length ≤ 1048576) (ho : Lib.occAt s.data.toList x p = true) :
    Calls Tryd.prog 16 #[.string s, .int .i64 p, .string ⟨x.toArray⟩] w fun e w' => e = .returned (.bool true) ∧ ∃ n, w' = w.drewN n := by
  have h := at16 s ⟨x.toArray⟩ p w hp hs hv
  rw [show (⟨x.toArray⟩ : ByteArray).data.toList = x from rfl, ho] at h
  exact h

theorem hasE_ne (vs : List (List UInt8)) (h : hasE vs = false) (k : Nat) (hk : k < vs.length) : (vs.getD k []).length ≠ 0 := by
  intro e
  rw [hasE_of vs k hk e] at h
  cases h

set_option maxHeartbeats 2000000 in
set_option maxRecDepth 100000 in
theorem law4 (ao : Option Addr) (n cap : Nat) (vs : List (List UInt8)) (s sep : ByteArray) (m : Int) (w : World) (hrow : SRow w ao n vs) (hn : n ≤ 9223372036854775807) (hv : ∀ i, i < n → (vs.getD i []).length ≤ 9223372036854775807)
    (h1 : s.size ≤ 9223372036854775807) (h2 : sep.size ≤ 9223372036854775807) (hm : w.cell? ⟨0, 0, none⟩ = some (.int .i64 m)) (hT : Lib.Utf8Tabs 1 2 w) :
    Calls Tryd.prog 4 #[.slice ao n cap, .string s, .string sep] w fun e w' => e = .returned (.bool true) ∧ Below w.heap.size w w' := by
  have HV : Hid _ := hv
  have HRW : Hid (SRow w ao n vs) := hrow
  have HL : Hid (vs.length = n) := hrow.1
  have HM : Hid _ := hm
  have HT : Hid (Lib.Utf8Tabs 1 2 w) := hT
  have h0 : 0 < w.heap.size := pos_of_cell hm
  clear hv hrow hm hT
  by_cases hb : n + lens vs + s.size + sep.size ≤ 1048576
  · go_enter Tryd.func4, Tryd.ntmps4
    go_wp2_with fail
    refine (bytes15b ao n cap vs s sep w HRW.out hn HV.out h1 h2).mono ?_
    rintro en w1 ⟨rfl, rfl⟩
    rw [decide_eq_true hb]
    have hn2 : n ≤ 1048576 := by omega
    have hs2 : s.size ≤ 1048576 := by omega
    have hp2 : sep.size ≤ 1048576 := by omega
    have HV2 : Hid (∀ i, i < n → (vs.getD i []).length ≤ 1048576) := by
      intro i hi
      have := len_mem vs i (by rw [HL.out]; exact hi)
      omega
    clear hb h1 h2 hn
    go_upto_region 3 with fail
    go_cut [34] from 16 to 33 (fun v wx => (∃ b, v = .bool b) ∧ w1 = wx)
    case first =>
      as_aux_lemma =>
        go_wp2_with fail
        refine (size7 ao n cap vs w1 HRW.out (by omega) HV.out).mono ?_
        rintro en w2 ⟨q, hq, rfl, rfl⟩
        go_wp2
        go_meet
        case rel => exact ⟨⟨_, rfl⟩, rfl⟩
    case rest =>
      obtain ⟨⟨b, rfl⟩, rfl⟩ := hcut
      rename World => w1
      cases b
      rotate_left
      · go_wp2
        go_ret
        exact ⟨rfl, Below.refl _ _⟩
      · go_wp2_with fail
        refine (hasEmpty8 ao n cap vs w1 HRW.out (by omega) HV.out).mono ?_
        rintro en w2 ⟨rfl, rfl⟩
        cases hE : hasE vs
        rotate_left
        · go_wp2
          go_ret
          exact ⟨rfl, Below.refl _ _⟩
        · have HV3 : Hid (∀ i, i < n → (vs.getD i []).length ≠ 0 ∧ (vs.getD i []).length ≤ 1048576) := fun i hi => ⟨hasE_ne vs hE i (by rw [HL.out]; exact hi), HV2.out i hi⟩
          go_wp2_with fail
          refine (clone9 ao n cap vs w2 HRW.out hn2).mono ?_
          rintro en w3 ⟨ao', cap', rfl, hrow3, hb3⟩
          have HR3 : Hid (SRow w3 ao' n vs) := hrow3
          clear hrow3 HRW HV HV2
          go_wp2_with fail
          refine (newValues10 ao' n cap' w3).mono ?_
          rintro en w4 ⟨rfl, hb4⟩
          have hb4' := hb3.trans (hb4.mono hb3.size)
          have HR4 : Hid (SRow w4 ao' n vs) := SRow.later HR3.out hb4
          clear hb3 hb4 HR3
          go_wp2_with fail
          refine (vsplit11 ao' n cap' vs s sep m w4 HR4.out hn2 hs2 hp2 HV3.out ((hb4'.cell (p := ⟨0, 0, none⟩) h0).trans HM.out) (Utf8Tabs_below HT.out hb4')).mono ?_
          rintro en w5 ⟨v, base, rfl, hown, _, hb5⟩
          have hb5' := hb4'.trans (hb5.mono hb4'.size)
          clear hb4' hb5 HR4 HT HM HV3
          have hgl := gl_pcs s sep
          have hSl := pcs_len s sep
          obtain ⟨S, HS⟩ : ∃ S, Hid (S = pcs s sep) := ⟨_, rfl⟩
          obtain ⟨Sp, HSp⟩ : ∃ Sp, Hid (Sp = spans s.data.toList vs) := ⟨_, rfl⟩
          rw [← HS.out] at hgl hown hSl
          rw [← HSp.out] at hown
          have HG : Hid (gl sep.data.toList S = s.data.toList) := hgl
          clear hgl
          obtain ⟨ap, cp, hvv⟩ : ∃ ap cp, v = .slice ap S.length cp := by
            rcases Joins.ownsRow_forms hown with ⟨h, h0⟩ | ⟨g, cap', h⟩
            · exact ⟨_, _, by rw [h, h0]⟩
            · exact ⟨_, _, h⟩
          subst hvv
          have HO : Hid (w5.ownsRow base 38 2 (.slice ap S.length cp) S.length (Pc S Sp sep.size S.length)) := hown
          clear hown
          have c38 : Tryd.prog.cellsOf 38 = 2 := by kernel_rfl
          go_wp2_with fail
          have hmm : sep.data.toList.length = sep.size := rfl
          go_loopw [8, 9] (fun p i wr => ∃ (k q : Nat), k ≤ S.length ∧ i = .int .i64 k ∧ p = .int .i64 (posk S sep.size k) ∧ wr = w5.drewN q) (fun _ i _ => S.length - (intOf i).toNat)
          case atStart => exact ⟨0, 0, Nat.zero_le _, rfl, rfl, rfl⟩
          case round =>
            obtain ⟨k, q, hk, rfl, rfl, rfl⟩ := hrel
            by_cases hlt : k < S.length
            · have hroom := (gl_st _ S _ HG.out k hlt).1
              have hpl := pos_le _ S _ HG.out k hk
              have hocc := occ_text _ S _ HG.out k hlt
              rw [hmm] at hroom hpl hocc
              rw [show s.data.toList.length = s.size from rfl] at hroom hpl
              have hcell : (w5.drewN q).cell? ⟨0, 0, none⟩ = (w5.drewN q).cell? ⟨0, 0, none⟩ := rfl
              obtain ⟨g, hap, hcg⟩ : ∃ g, ap = some ⟨g, 0, none⟩ ∧ w5.cell? ⟨g, k * 2, none⟩ = some (sc (S.getD k [])) := by
                rcases HO.out.2 with ⟨_, h⟩ | ⟨g, cap', cur, h, _⟩
                · omega
                · cases h
                  refine ⟨g, rfl, ?_⟩
                  rw [HO.out.cellAt (k * 2) (by omega), Nat.mul_comm, (Pc_get S Sp sep.size k S.length hlt).1]
              subst hap
              clear hcell
              obtain ⟨x, Hx⟩ : ∃ x, Hid (x = S.getD k []) := ⟨_, rfl⟩
              obtain ⟨p, Hp⟩ : ∃ p, Hid (p = posk S sep.size k) := ⟨_, rfl⟩
              obtain ⟨t, Ht⟩ : ∃ t, Hid (t = st S sep.size k) := ⟨_, rfl⟩
              have HN : Hid (posk S sep.size (k + 1) = t + x.length) := by rw [Ht.out, Hx.out]; exact rfl
              rw [← Hx.out] at hcg hroom hocc
              rw [← Ht.out] at hroom hocc
              rw [← Hp.out] at hpl ⊢
              have HOC : Hid _ := hocc
              unfold sc at hcg
              have hcg2 : ∀ q, (w5.drewN q).cell? ⟨g, k * 2, none⟩ = some (.string ⟨x.toArray⟩) := fun _ => hcg
              clear hocc hcg
              go_upto_if 51 with fail
              go_cut [8] from 52 to 60 (fun v8 wx => v8 = .int .i64 t ∧ ∃ q, wx = w5.drewN q)
              case first =>
                as_aux_lemma =>
                  cases k with
                  | zero =>
                    have hpt : p = t := by rw [Hp.out, Ht.out, st_zero]; rfl
                    subst hpt
                    go_wp2
                    go_meet
                    case rel => exact ⟨rfl, _, rfl⟩
                  | succ k =>
                    have hos := occ_sep _ S _ HG.out k hlt
                    rw [hmm, ← Hp.out] at hos
                    have hpt : t = p + sep.size := by rw [Hp.out, Ht.out, st_succ S _ k (by omega)]; rfl
                    go_wp2_with fail
                    refine (at16 s sep p _ hpl hs2 hp2).mono ?_
                    rw [hos]
                    rintro en w6 ⟨rfl, q6, rfl⟩
                    subst hpt
                    go_wp2
                    go_meet
                    case rel => exact ⟨by go_num, _, rfl⟩
              case rest =>
                obtain ⟨rfl, q7, rfl⟩ := hcut
                have hcg := hcg2 q7
                go_wp2_with fail
                refine (at16b s x t _ (by omega) hs2 (by omega) HOC.out).mono ?_
                rintro en w6 ⟨rfl, q6, rfl⟩
                go_wp2
                go_roundw
                case rel => exact ⟨k + 1, q7 + q6, by omega, by go_num, by rw [HN.out]; go_num, rfl⟩
                case measure => simp [intOf]; omega
            · obtain rfl : k = S.length := by omega
              have hpe := pos_end _ S _ HG.out
              rw [hmm, show s.data.toList.length = s.size from rfl] at hpe
              rw [hpe]
              clear hpe
              go_wp2
              go_ret
              exact ⟨ret_bool (by simp), hb5'.trans ⟨rfl, rfl, rfl, Nat.le_refl _, fun _ _ => rfl⟩⟩
  · go_enter Tryd.func4, Tryd.ntmps4
    go_wp2_with fail
    refine (bytes15b ao n cap vs s sep w HRW.out hn HV.out h1 h2).mono ?_
    rintro en w1 ⟨rfl, rfl⟩
    rw [decide_eq_false hb]
    go_wp2
    go_ret
    exact ⟨rfl, Below.refl _ _⟩
end Go.Proofs.Qxb6601974aDoor
