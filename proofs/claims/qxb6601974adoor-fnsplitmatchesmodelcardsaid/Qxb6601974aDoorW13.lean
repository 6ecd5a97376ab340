import Derived.Test.Qxb6601974aDoorW12
namespace Go.Proofs.Qxb6601974aDoor
open Go.RowKit

theorem bytes6b (ao : Option Addr) (n cap : Nat) (vs : List (List UInt8)) (s sep : ByteArray) (w : World) (hrow : SRow w ao n vs) (hn : n ≤ 9223372036854775807) (hv : ∀ i, i < n → (vs.getD i []).length ≤ 9223372036854775807)
    (h1 : s.size ≤ 9223372036854775807) (h2 : sep.size ≤ 9223372036854775807) :
    Calls Tryd.prog 6 #[.slice ao n cap, .string s, .string sep] w fun e w' => e = .returned (.bool (decide (n + lens vs + s.size + sep.size ≤ 1048576))) ∧ w' = w := by
  have h := bytes6 ao n cap vs s.data.toList sep.data.toList w hrow hn hv h1 h2
  rw [Lib.mk_data, Lib.mk_data] at h
  exact h

theorem own_below {B : Nat} {e : TypeId} {k : Nat} {v : Value} {n : Nat} {xs : List Value} {w w' : World} (h : w.ownsRow B e k v n xs) (hb : Below w.heap.size w w') : w'.ownsRow B e k v n xs :=
  h.kept (row := none) ⟨hb.os, hb.tape, hb.output, hb.size, fun k hk _ => hb.block k hk⟩ (Classical.em _)

theorem cov_same {base : Nat} {w w' : World} {v : Value} {n : Nat} {Sp : List (Nat × Nat)} (h : Cov base w v n Sp) (hh : w'.heap = w.heap) : Cov base w' v n Sp := by
  rcases h with h | ⟨h1, b, h2, h3, h4⟩
  · exact .inl h
  · exact .inr ⟨h1, b, h2, h3, h4.keep (by rw [hh]; exact Nat.le_refl _) (by rw [hh])⟩

theorem any14b (base : Nat) (v : Value) (N lo l : Nat) (z : Int) (hz : z = ((lo + l : Nat) : Int)) (Sp : List (Nat × Nat)) (w : World) (hc : Cov base w v N Sp) (hN : N ≤ 1048576) (hl : lo + l ≤ N) :
    Calls Tryd.prog 14 #[v, .int .i64 lo, .int .i64 z] w fun e w' => e = .returned (.bool (hidB Sp lo l)) ∧ w' = w := by
  subst hz
  exact any14 base v N lo l Sp w hc hN hl

theorem hid_congr {A B : List (Nat × Nat)} (h : ∀ q, q ∈ A ↔ q ∈ B) (p l : Nat) : hidB A p l = hidB B p l := by
  unfold hidB
  congr 1
  funext i
  exact inSp_congr h (p + i)

theorem own_at {w : World} {base n cap : Nat} {ap : Option Addr} {f : Nat → Nat} (h : w.ownsRow base 3 1 (.slice ap n cap) n (Is f n)) (k : Nat) (hk : k < n) : ∃ g, ap = some ⟨g, 0, none⟩ ∧ w.cell? ⟨g, k, none⟩ = some (.int .i64 (f k)) := by
  rcases h.2 with ⟨_, h0⟩ | ⟨g, cap', cur, h1, _⟩
  · omega
  · cases h1
    exact ⟨g, rfl, by rw [h.cellAt k (by omega), Is_get f n k hk]⟩

theorem own_slice {w : World} {base n e size : Nat} {v : Value} {xs : List Value} (h : w.ownsRow base e size v n xs) : ∃ ap cp, v = .slice ap n cp := by
  rcases Joins.ownsRow_forms h with ⟨h, h0⟩ | ⟨g, cap', h⟩
  · exact ⟨_, _, by rw [h, h0]⟩
  · exact ⟨_, _, h⟩

theorem ext_piece (s : ByteArray) (S : List (List UInt8)) (sep : List UInt8) (h : gl sep S = s.data.toList) (k : Nat) (hk : k < S.length) : s.extract (st S sep.length k) (en S sep.length k) = ⟨(S.getD k []).toArray⟩ := by
  rw [Lib.extract_eq, gl_tail sep S _ h k hk]
  congr 2
  unfold en
  rw [Nat.add_sub_cancel_left, List.take_left]

set_option maxHeartbeats 2000000 in
set_option maxRecDepth 100000 in
theorem law3 (ao : Option Addr) (n cap : Nat) (vs : List (List UInt8)) (s sep : ByteArray) (m : Int) (w : World) (hrow : SRow w ao n vs) (hn : n ≤ 9223372036854775807) (hv : ∀ i, i < n → (vs.getD i []).length ≤ 9223372036854775807)
    (h1 : s.size ≤ 9223372036854775807) (h2 : sep.size ≤ 9223372036854775807) (hm : w.cell? ⟨0, 0, none⟩ = some (.int .i64 m)) (hT : Lib.Utf8Tabs 1 2 w) :
    Calls Tryd.prog 3 #[.slice ao n cap, .string s, .string sep] w fun e w' => e = .returned (.bool true) ∧ Below w.heap.size w w' := by
  have HV : Hid _ := hv
  have HRW : Hid (SRow w ao n vs) := hrow
  have HL : Hid (vs.length = n) := hrow.1
  have HM : Hid _ := hm
  have HT : Hid (Lib.Utf8Tabs 1 2 w) := hT
  have h0 : 0 < w.heap.size := pos_of_cell hm
  clear hv hrow hm hT
  by_cases hb : n + lens vs + s.size + sep.size ≤ 1048576
  · go_enter Tryd.func3, Tryd.ntmps3
    go_wp2_with fail
    refine (bytes6b ao n cap vs s sep w HRW.out hn HV.out h1 h2).mono ?_
    rintro en w1 ⟨rfl, rfl⟩
    rw [decide_eq_true hb]
    have hn2 : n ≤ 1048576 := by omega
    have hs2 : s.size ≤ 1048576 := by omega
    have hp2 : sep.size ≤ 1048576 := by omega
    have HV2 : Hid (∀ i, i < n → (vs.getD i []).length ≤ 1048576) := by
      intro i hi
      have := len_mem vs i (by rw [HL.out]; exact hi)
      omega
    clear hb h1 h2 hn
    go_upto_region 3 with fail
    go_cut [35] from 17 to 34 (fun v wx => (∃ b, v = .bool b) ∧ w1 = wx)
    case first =>
      as_aux_lemma =>
        go_wp2_with fail
        refine (size7 ao n cap vs w1 HRW.out (by omega) HV.out).mono ?_
        rintro en w2 ⟨q, hq, rfl, rfl⟩
        go_wp2
        go_meet
        case rel => exact ⟨⟨_, rfl⟩, rfl⟩
    case rest =>
      obtain ⟨⟨b, rfl⟩, rfl⟩ := hcut
      rename World => w1
      cases b
      rotate_left
      · go_wp2
        go_ret
        exact ⟨rfl, Below.refl _ _⟩
      · go_wp2_with fail
        refine (hasEmpty8 ao n cap vs w1 HRW.out (by omega) HV.out).mono ?_
        rintro en w2 ⟨rfl, rfl⟩
        cases hE : hasE vs
        rotate_left
        · go_wp2
          go_ret
          exact ⟨rfl, Below.refl _ _⟩
        · have HV3 : Hid (∀ i, i < n → (vs.getD i []).length ≠ 0 ∧ (vs.getD i []).length ≤ 1048576) := fun i hi => ⟨hasE_ne vs hE i (by rw [HL.out]; exact hi), HV2.out i hi⟩
          have HMem : Hid (∀ q, q ∈ spm s.data.toList vs s.size ↔ q ∈ spans s.data.toList vs) := by
            intro q
            refine spm_mem s.data.toList vs (fun v hv e => ?_) q
            obtain ⟨k, hk, rfl⟩ := List.mem_iff_getElem.1 hv
            have := hasE_ne vs hE k hk
            simp [hk, e] at this
          go_wp2_with fail
          refine (clone9 ao n cap vs w2 HRW.out hn2).mono ?_
          rintro en w3 ⟨ao', cap', rfl, hrow3, hb3⟩
          have HR3 : Hid (SRow w3 ao' n vs) := hrow3
          clear hrow3 HRW HV HV2
          go_wp2_with fail
          refine (newValues10 ao' n cap' w3).mono ?_
          rintro en w4 ⟨rfl, hb4⟩
          have hb4' := hb3.trans (hb4.mono hb3.size)
          have HR4 : Hid (SRow w4 ao' n vs) := SRow.later HR3.out hb4
          clear hb3 hb4 HR3
          go_wp2_with fail
          refine (vsplit11 ao' n cap' vs s sep m w4 HR4.out hn2 hs2 hp2 HV3.out ((hb4'.cell (p := ⟨0, 0, none⟩) h0).trans HM.out) (Utf8Tabs_below HT.out hb4')).mono ?_
          rintro en w5 ⟨v, base, rfl, hown, _, hb5⟩
          have hb5' := hb4'.trans (hb5.mono hb4'.size)
          have HR5 : Hid (SRow w5 ao' n vs) := SRow.later HR4.out hb5
          clear hb4' hb5 HR4 HT HM
          obtain ⟨ap, cp, rfl⟩ := own_slice hown
          have hgl := gl_pcs s sep
          have hSl := pcs_len s sep
          go_wp2_with fail
          refine (bounds12 s sep w5 hs2 hp2).mono ?_
          rintro en w6 ⟨vS, vE, rfl, hoS, hoE, hb6⟩
          have hb6' := hb5'.trans (hb6.mono hb5'.size)
          have HR6 : Hid (SRow w6 ao' n vs) := SRow.later HR5.out hb6
          have hown6 := own_below hown hb6
          clear hb5' hb6 HR5 hown
          obtain ⟨aS, cS, rfl⟩ := own_slice hoS
          obtain ⟨aE, cE, rfl⟩ := own_slice hoE
          go_wp2_with fail
          refine (model13 ao' n cap' vs s w6 HR6.out hn2 hs2 HV3.out).mono ?_
          rintro en w7 ⟨cv, rfl, hcov, hb7⟩
          have hb7' := hb6'.trans (hb7.mono hb6'.size)
          have hown7 := own_below hown6 hb7
          have hoS7 := own_below hoS hb7
          have hoE7 := own_below hoE hb7
          clear hb6' hb7 HR6 hown6 hoS hoE HV3
          obtain ⟨S, HS⟩ : ∃ S, Hid (S = pcs s sep) := ⟨_, rfl⟩
          obtain ⟨Sp, HSp⟩ : ∃ Sp, Hid (Sp = spans s.data.toList vs) := ⟨_, rfl⟩
          obtain ⟨Sm, HSm⟩ : ∃ Sm, Hid (Sm = spm s.data.toList vs s.size) := ⟨_, rfl⟩
          rw [← HS.out] at hgl hSl hown7 hoS7 hoE7 ⊢
          rw [← HSp.out] at hown7 HMem
          rw [← HSm.out] at hcov HMem
          have HG : Hid (gl sep.data.toList S = s.data.toList) := hgl
          have HO : Hid (w7.ownsRow base 38 2 (.slice ap S.length cp) S.length (Pc S Sp sep.size S.length)) := hown7
          have HOS : Hid _ := hoS7
          have HOE : Hid _ := hoE7
          have HCV : Hid (Cov w6.heap.size w7 cv s.size Sm) := hcov
          clear hgl hown7 hoS7 hoE7 hcov
          have c38 : Tryd.prog.cellsOf 38 = 2 := by kernel_rfl
          go_wp2_with fail
          have HOS2 : Hid (w7.ownsRow w5.heap.size 3 1 (.slice aS S.length cS) S.length (Is (st S sep.size) S.length)) := HOS
          have HOE2 : Hid (w7.ownsRow w5.heap.size 3 1 (.slice aE S.length cE) S.length (Is (en S sep.size) S.length)) := HOE
          clear HOS HOE
          have hmm : sep.data.toList.length = sep.size := rfl
          go_loopw [11] (fun i wr => ∃ (k q : Nat), k ≤ S.length ∧ i = .int .i64 k ∧ wr = w7.drewN q) (fun i _ => S.length - (intOf i).toNat)
          case atStart => exact ⟨0, 0, Nat.zero_le _, rfl, rfl⟩
          case round =>
            obtain ⟨k, q, hk, rfl, rfl⟩ := hrel
            by_cases hlt : k < S.length
            · have hroom := (gl_st _ S _ HG.out k hlt).1
              have hext := ext_piece s S _ HG.out k hlt
              rw [hmm] at hroom hext
              rw [show s.data.toList.length = s.size from rfl] at hroom
              obtain ⟨g, hap, hcg, hch⟩ : ∃ g, ap = some ⟨g, 0, none⟩ ∧ w7.cell? ⟨g, k * 2, none⟩ = some (sc (S.getD k [])) ∧ w7.cell? ⟨g, k * 2 + 1, none⟩ = some (.bool (hidB Sp (st S sep.size k) (S.getD k []).length)) := by
                rcases HO.out.2 with ⟨_, h⟩ | ⟨g, cap', cur, h, _⟩
                · omega
                · cases h
                  refine ⟨g, rfl, ?_, ?_⟩
                  · rw [HO.out.cellAt (k * 2) (by omega), Nat.mul_comm, (Pc_get S Sp sep.size k S.length hlt).1]
                  · rw [HO.out.cellAt (k * 2 + 1) (by omega), Nat.mul_comm, (Pc_get S Sp sep.size k S.length hlt).2]
              obtain ⟨gS, hapS, hcS⟩ := own_at HOS2.out k hlt
              obtain ⟨gE, hapE, hcE⟩ := own_at HOE2.out k hlt
              cases hap
              cases hapS
              cases hapE
              have hen : en S sep.size k = st S sep.size k + (S.getD k []).length := rfl
              rw [hen] at hcE hext
              rw [← hid_congr HMem.out] at hch
              obtain ⟨x, Hx⟩ : ∃ x, Hid (x = S.getD k []) := ⟨_, rfl⟩
              obtain ⟨p, Hp⟩ : ∃ p, Hid (p = st S sep.size k) := ⟨_, rfl⟩
              rw [← Hx.out] at hcg hch hcE hext hroom
              rw [← Hp.out] at hch hcS hcE hext hroom
              obtain ⟨hd, Hhd⟩ : ∃ hd, Hid (hd = hidB Sm p x.length) := ⟨_, rfl⟩
              rw [← Hhd.out] at hch
              unfold sc at hcg
              have hkI : (k : Int) < (S.length : Int) := by omega
              have hk0 : (0 : Int) ≤ (k : Int) := by omega
              have hb0 : (0 : Int) ≤ (p : Int) := by omega
              have hb1 : (p : Int) ≤ ((p + x.length : Nat) : Int) := by omega
              have hb2 : ((p + x.length : Nat) : Int) ≤ (s.size : Int) := by omega
              clear hen Hx Hp
              go_upto_region 16 with fail
              go_cut [80] from 65 to 79 (fun v wx => v = .bool false ∧ ∃ q, wx = w7.drewN q)
              case first =>
                as_aux_lemma =>
                  go_quiet (fail)
                  go_wp2
                  go_meet
                  case rel => exact ⟨by simp, _, World.drewN_drewN ..⟩
              case rest =>
                obtain ⟨rfl, q2, hwc⟩ := hcut
                rename World => w8
                have hch8 : w8.cell? ⟨g, k * 2 + 1, none⟩ = some (.bool hd) := by rw [hwc]; exact hch
                have hcS8 : w8.cell? ⟨gS, k, none⟩ = some (.int .i64 p) := by rw [hwc]; exact hcS
                have hcE8 : w8.cell? ⟨gE, k, none⟩ = some (.int .i64 ((p : Int) + x.length)) := by rw [hwc]; exact hcE
                have HCV8 : Hid (Cov w6.heap.size w8 cv s.size Sm) := by rw [hwc]; exact cov_same HCV.out rfl
                have Hwc : Hid (w8 = w7.drewN q2) := hwc
                clear hwc hch hcS hcE hcg hext
                go_upto_region 18 with fail
                go_cut [96] from 81 to 95 (fun v wx => v = .bool false ∧ ∃ q, wx = w8.drewN q)
                case first =>
                  as_aux_lemma =>
                    have hcall : ∀ q, Calls Tryd.prog 14 #[cv, .int .i64 p, .int .i64 ((p : Int) + x.length)] (w8.drewN q) fun e w'' => e = .returned (.bool hd) ∧ ∃ m, w'' = w8.drewN m := fun q => Calls.quiet_of_same (by rw [Hhd.out]; exact any14b w6.heap.size cv s.size p x.length _ (by omega) Sm _ (cov_same HCV8.out rfl) hs2 hroom)
                    have HCA : Hid (∀ q, Calls Tryd.prog 14 #[cv, .int .i64 p, .int .i64 ((p : Int) + x.length)] (w8.drewN q) fun e w'' => e = .returned (.bool hd) ∧ ∃ m, w'' = w8.drewN m) := hcall
                    clear hcall
                    go_quiet (first | (go_at_call 14; exact HCA.out _))
                    go_wp2
                    go_meet
                    case rel => exact ⟨by simp, _, rfl⟩
                case rest =>
                  obtain ⟨rfl, q3, rfl⟩ := hcut
                  go_wp2
                  go_roundw
                  case rel => exact ⟨k + 1, q2 + q3, by omega, by go_num, by rw [Hwc.out]; exact World.drewN_drewN ..⟩
                  case measure => simp [intOf]; omega
            · obtain rfl : k = S.length := by omega
              go_wp2
              go_ret
              exact ⟨rfl, hb7'.trans ⟨rfl, rfl, rfl, Nat.le_refl _, fun _ _ => rfl⟩⟩
  · go_enter Tryd.func3, Tryd.ntmps3
    go_wp2_with fail
    refine (bytes6b ao n cap vs s sep w HRW.out hn HV.out h1 h2).mono ?_
    rintro en w1 ⟨rfl, rfl⟩
    rw [decide_eq_false hb]
    go_wp2
    go_ret
    exact ⟨rfl, Below.refl _ _⟩
end Go.Proofs.Qxb6601974aDoor
