import Derived.Test.Qxb6601701aDoorW1
namespace Go.Proofs.Qxb6601701aDoor
open Go.RowKit

def sc (l : List UInt8) : Value := .string ⟨l.toArray⟩
def Ss (K : List (List UInt8)) : List Value := K.map sc
theorem Ss_snoc (K : List (List UInt8)) (x : List UInt8) : Ss K ++ [sc x] = Ss (K ++ [x]) := by simp [Ss]
theorem Ss_len (K : List (List UInt8)) : (Ss K).length = K.length := by simp [Ss]

theorem split_any (s : ByteArray) (m : Int) (w : World) (hs : s.size < 4294967281) (hm : w.cell? ⟨0, 0, none⟩ = some (.int .i64 m)) :
    Calls Tryd.prog 32 #[.string s, .string ⟨#[47]⟩] w fun e w' => ∃ O, e = .returned (.slice (some ⟨w.heap.size, 0, none⟩) (spl s.data.toList).length (spl s.data.toList).length) ∧ w' = w.alloc O ∧
      ∀ i (h : i < (spl s.data.toList).length), (w.alloc O).cell? ⟨w.heap.size, i, none⟩ = some (sc (spl s.data.toList)[i]) := by
  refine (Tryd.strings_Split s ⟨#[47]⟩ m w hs hm (by decide)).mono ?_
  rintro e w' ⟨rfl, rfl⟩
  have hc : Lib.countB s ⟨#[47]⟩ + 1 = (spl s.data.toList).length := count_spl s.data.toList
  have hd : (Lib.splitB ⟨#[47]⟩ 0 (Lib.countB s ⟨#[47]⟩) s).map (·.data.toList) = spl s.data.toList := by
    rw [Lib.splitB_data]; exact split_spl _ _ (Nat.le_refl _)
  refine ⟨_, by rw [hc], rfl, fun i h => ?_⟩
  have hl : i < (Lib.splitB ⟨#[47]⟩ 0 (Lib.countB s ⟨#[47]⟩) s).length := by
    have := congrArg List.length hd
    rw [List.length_map] at this; omega
  rw [Lib.pieces_cell_at w _ 9 i _ (List.getElem?_eq_getElem hl)]
  have h2 : (spl s.data.toList)[i] = ((Lib.splitB ⟨#[47]⟩ 0 (Lib.countB s ⟨#[47]⟩) s)[i]).data.toList := by
    have : (spl s.data.toList)[i]? = ((Lib.splitB ⟨#[47]⟩ 0 (Lib.countB s ⟨#[47]⟩) s)[i]?).map (·.data.toList) := by rw [← hd, List.getElem?_map]
    rw [List.getElem?_eq_getElem h, List.getElem?_eq_getElem hl] at this
    simpa using this
  rw [h2]
  unfold sc
  rw [Lib.mk_data]

theorem Tryd.info9 : (Tryd.prog.info? 9).map (fun i => (i.zero, i.size, i.bytes)) = some (some (.string ⟨#[]⟩), 1, 16) := by kernel_rfl

theorem one_new (w : World) (x : List UInt8) : ∀ j u, [sc x][j]? = some u → (w.alloc (.cells #[sc x] 9)).cell? ((⟨w.heap.size, 0, none⟩ : Addr).add j) = some u := cell_one_new _ _ _
theorem sc_one (x : List UInt8) : ∀ u ∈ [sc x], u.oneCell' = true := by
  intro u hu; simp at hu; subst hu; rfl

theorem kept_take (S : List (List UInt8)) (k : Nat) (h : k < S.length) : kept (S.take (k + 1)) = kp (kept (S.take k)) S[k] := by
  rw [List.take_succ_eq_append_getElem h, kept_snoc]

theorem kept_len (S : List (List UInt8)) (k : Nat) : (kept (S.take k)).length ≤ wt S := by
  have h1 := len_le_wt (kept (S.take k))
  have h2 := wt_kept (S.take k)
  have h3 : wt S = wt (S.take k) + wt (S.drop k) := by rw [← wt_append, List.take_append_drop]
  omega

set_option maxHeartbeats 1000000 in
set_option maxRecDepth 100000 in
theorem rds_any (s : ByteArray) (m : Int) (w : World) (hs : s.size ≤ 1048576) (hm : w.cell? ⟨0, 0, none⟩ = some (.int .i64 m)) :
    Calls Tryd.prog 21 #[.string s] w fun e w' => e = .returned (.string ⟨(rds s.data.toList).toArray⟩) ∧ Below w.heap.size w w' := by
  cases hp : Lib.hasPrefix s.data.toList [47]
  · have HF : Hid (rds s.data.toList = s.data.toList) := by
      refine rds_rel _ ?_
      intro e
      have : Lib.hasPrefix s.data.toList [47] = true := by
        cases h : s.data.toList with
        | nil => rw [h] at e; simp at e
        | cons c r => rw [h] at e; simp at e; subst e; simp [Lib.hasPrefix]
      rw [hp] at this; cases this
    go_enter Tryd.func21, Tryd.ntmps21
    go_wp2_with fail
    refine (Tryd.strings_HasPrefix _ _ _).mono ?_
    rintro en w1 ⟨rfl, rfl⟩
    rw [show (⟨#[47]⟩ : ByteArray).data.toList = [47] from rfl, hp]
    go_wp2
    go_ret
    exact ⟨by rw [HF.out]; rfl, Below.refl _ _⟩
  · have hh : s.data.toList.head? = some 47 := by
      cases h : s.data.toList with
      | nil => rw [h] at hp; simp [Lib.hasPrefix] at hp
      | cons c r => rw [h] at hp; simp [Lib.hasPrefix] at hp; rw [hp]; rfl
    have h1 : 1 ≤ s.size := by
      cases h : s.data.toList with
      | nil => rw [h] at hh; simp at hh
      | cons c r =>
        have h2 := congrArg List.length h
        have h3 : s.data.toList.length = s.size := rfl
        rw [h3, List.length_cons] at h2; omega
    have HF : Hid (rds s.data.toList = 47 :: Lib.join (kept (spl s.data.toList.tail)) [47]) := rds_abs _ hh
    have hwt : wt (spl s.data.toList.tail) ≤ 1048577 := by
      rw [wt_spl, List.length_tail]
      have : s.data.toList.length = s.size := rfl
      omega
    clear hh
    go_enter Tryd.func21, Tryd.ntmps21
    go_wp2_with fail
    refine (Tryd.strings_HasPrefix _ _ _).mono ?_
    rintro en w1 ⟨rfl, rfl⟩
    rw [show (⟨#[47]⟩ : ByteArray).data.toList = [47] from rfl, hp]
    obtain ⟨S, HS⟩ : ∃ S, Hid (S = spl s.data.toList.tail) := ⟨_, rfl⟩
    rw [← HS.out] at HF hwt
    have hSl : S.length ≤ 1048577 := Nat.le_trans (len_le_wt S) hwt
    obtain ⟨i0, hi, hz0, hz1, hz2⟩ := info_parts Tryd.info9
    go_wp2_with fail
    refine (split_any _ m _ (by rw [ByteArray.size_extract]; omega) hm).mono ?_
    rintro en w2 ⟨O, rfl, rfl, hcells⟩
    have hext : (s.extract 1 s.size).data.toList = s.data.toList.tail := by rw [Lib.extract_to_end, List.drop_one]
    rw [hext, ← HS.out]
    have HC : Hid (∀ i (h : i < S.length), (w1.alloc O).cell? ⟨w1.heap.size, i, none⟩ = some (sc S[i])) := by
      intro i h
      have h2 := hcells i (by rw [hext, ← HS.out]; exact h)
      rw [h2]
      congr 2
      simp only [hext, ← HS.out]
    clear hcells hext
    have hb2 : Below w1.heap.size w1 (w1.alloc O) := (Below.refl _ _).alloc (Nat.le_refl _) _
    have hz2s : w1.heap.size + 1 ≤ (w1.alloc O).heap.size := by simp
    obtain ⟨w2, hw2⟩ : ∃ w2, w2 = w1.alloc O := ⟨_, rfl⟩
    rw [← hw2] at HC hb2 hz2s ⊢
    clear hw2
    go_wp2_with fail
    go_loopw [3, 14] (fun v i wr => ∃ (k : Nat) (K : List (List UInt8)) (ao : Option Addr) (cap : Nat), k ≤ S.length ∧ i = .int .i64 k ∧ v = .slice ao K.length cap ∧ K.length ≤ 1048577 ∧ Hid (K = kept (S.take k)) ∧
        wr.ownsRow (w1.heap.size + 1) 9 1 (.slice ao K.length cap) K.length (Ss K) ∧ Below (w1.heap.size + 1) w2 wr) (fun _ i _ => S.length - (intOf i).toNat)
    case atStart => exact ⟨0, [], none, 0, Nat.zero_le _, rfl, rfl, by simp, rfl, World.ownsRow_nil _ _ _ _, Below.refl _ _⟩
    case round =>
      obtain ⟨k, K, ao, cap, hk, rfl, rfl, hKl, HK, hown, hb⟩ := hrel
      by_cases hlt : k < S.length
      · have hcell : wr.cell? ⟨w1.heap.size, k, none⟩ = some (sc S[k]) := (hb.cell (p := ⟨w1.heap.size, k, none⟩) (by show w1.heap.size < _; omega)).trans (HC.out k hlt)
        have hstep := kept_take S k hlt
        rw [← HK.out] at hstep
        have hl2 := kept_len S (k + 1)
        obtain ⟨x, hx⟩ : ∃ x, x = S[k] := ⟨_, rfl⟩
        rw [← hx] at hcell hstep
        have HX : Hid _ := hstep
        clear hstep hx
        unfold sc at hcell
        by_cases hx1 : x = [46]
        · subst hx1
          have HK2 : Hid (K = kept (S.take (k + 1))) := by rw [HX.out]; simp [kp, Hid]
          go_wp2
          go_roundw
          case rel => exact ⟨k + 1, K, ao, cap, by omega, by go_num, rfl, hKl, HK2, hown, hb⟩
          case measure => simp [intOf]; omega
        · have hxB1 : (x == [46]) = false := by simp [hx1]
          by_cases hx2 : x = [46, 46]
          · subst hx2
            have HK2 : Hid (K.dropLast = kept (S.take (k + 1))) := by rw [HX.out]; simp [kp, Hid]
            clear hxB1 hx1
            rcases List.eq_nil_or_concat K with hK | ⟨K', y, hK⟩
            · subst hK
              have HK3 : Hid ([] = kept (S.take (k + 1))) := HK2
              cases ao with
              | none =>
                obtain rfl : cap = 0 := by
                  rcases hown.2 with ⟨h, _⟩ | ⟨g, cap', cur, h, _⟩
                  · cases h; rfl
                  · cases h
                go_wp2
                go_roundw
                case rel => exact ⟨k + 1, [], none, 0, by omega, by go_num, rfl, by simp, HK3, hown, hb⟩
                case measure => simp [intOf]; omega
              | some a =>
                obtain ⟨g, rfl⟩ : ∃ g, a = ⟨g, 0, none⟩ := by
                  rcases hown.2 with ⟨h, _⟩ | ⟨g, cap', cur, h, _⟩
                  · cases h
                  · cases h; exact ⟨g, rfl⟩
                go_wp2
                go_roundw
                case rel => exact ⟨k + 1, [], some ⟨g, 0, none⟩, cap, by omega, by go_num, rfl, by simp, HK3, hown, hb⟩
                case measure => simp [intOf]; omega
            · subst hK
              have HK3 : Hid (K' = kept (S.take (k + 1))) := by have h := HK2.out; simp at h; exact h
              obtain ⟨g, hao, hcap⟩ : ∃ g, ao = some ⟨g, 0, none⟩ ∧ K'.length + 1 ≤ cap := by
                rcases hown.2 with ⟨h, h2⟩ | ⟨g, cap', cur, h, h2, h3, h4, _⟩
                · simp at h2
                · cases h; exact ⟨g, rfl, by simpa using h4⟩
              subst hao
              simp only [List.concat_eq_append, List.length_append, List.length_singleton] at hown hKl ⊢
              rw [← Ss_snoc] at hown
              have hown2 := ownsRow_pop (by rw [Ss_len]; omega) hown
              clear hown HK2 HK
              go_wp2
              go_roundw
              case rel => exact ⟨k + 1, K', some ⟨g, 0, none⟩, cap, by omega, by go_num, rfl, by omega, HK3, hown2, hb⟩
              case measure => simp [intOf]; omega
          · have hxB2 : (x == [46, 46]) = false := by simp [hx2]
            have HK2 : Hid (K ++ [x] = kept (S.take (k + 1))) := by rw [HX.out]; simp [kp, Hid, hx1, hx2]
            have hl3 : (K ++ [x]).length ≤ 1048577 := by rw [HK2.out]; omega
            rw [List.length_append, List.length_singleton] at hl3
            clear hx1 hx2
            go_wp2_with (at_builtin; refine wpList_append_own _ rfl _ _ 40 rfl (w1.heap.size + 1) 9 i0 (.string ⟨#[]⟩) 1 16 Tryd.underlying40 hi hz0 hz1 hz2 rfl (by decide) _ _ _ rfl (hown.alloc _) ⟨wr.heap.size, 0, none⟩ 1 1 [sc x] rfl rfl (one_new _ _) (sc_one _) (by unfold maxLen; omega) (by omega) (by have := hb.size; simp; omega) ?_)
            intro v' w3 hown3 hgrow _
            rw [Ss_snoc] at hown3
            have hb3 : Below (w1.heap.size + 1) w2 w3 := (hb.alloc (by have := hb.size; omega) _).grown hgrow (by have := hb.size; simp; omega) (fun k h => (hown.lt k h).1)
            obtain ⟨g, cap', hv⟩ : ∃ g cap', v' = .slice (some ⟨g, 0, none⟩) (K.length + 1) cap' := by
              rcases Joins.ownsRow_forms hown3 with ⟨_, h0⟩ | ⟨g, cap', h⟩
              · omega
              · exact ⟨g, cap', h⟩
            rw [hv] at hown3 ⊢
            clear hgrow hown hb hv
            go_wp2
            go_roundw
            case rel => exact ⟨k + 1, K ++ [x], some ⟨g, 0, none⟩, cap', by omega, by go_num, by simp, by simpa using hl3, HK2, by simpa using hown3, hb3⟩
            case measure => simp [intOf]; omega
      · obtain rfl : k = S.length := by omega
        rw [List.take_of_length_le (Nat.le_refl _)] at HK
        rw [← HK.out] at HF
        have hjl : (Lib.join K [47]).length ≤ 1048577 := by
          have h1 := join_len K
          have h2 := wt_kept S
          rw [← HK.out] at h2
          omega
        have hbw : Below w1.heap.size w1 wr := hb2.trans (hb.mono (Nat.le_succ _))
        by_cases hKe : K = []
        · subst hKe
          go_wp2_with fail
          refine (Tryd.strings_Join_none ao cap _ _).mono ?_
          rintro en w4 ⟨rfl, rfl⟩
          go_wp2
          go_ret
          exact ⟨by rw [HF.out]; rfl, hbw⟩
        · have hK1 : 1 ≤ K.length := by cases K <;> simp_all
          obtain ⟨g, hao, hcap⟩ : ∃ g, ao = some ⟨g, 0, none⟩ ∧ K.length ≤ cap := by
            rcases hown.2 with ⟨h, h2⟩ | ⟨g, cap', cur, h, h2, h3, h4, _⟩
            · omega
            · cases h; exact ⟨g, rfl, h4⟩
          subst hao
          have hgl := (hown.lt g rfl).2
          have hcl : ∀ (j : Nat) x, (K.map fun l => (⟨l.toArray⟩ : ByteArray))[j]? = some x → wr.cell? ⟨g, 0 + j, none⟩ = some (.string x) := by
            intro j x hx
            rw [List.getElem?_map] at hx
            obtain ⟨l, hl, rfl⟩ := Option.map_eq_some_iff.1 hx
            have hj : j < K.length := (List.getElem?_eq_some_iff.1 hl).1
            rw [Nat.zero_add, hown.cellAt j (by omega)]
            simp [Ss, hl, sc]
          have hmm : (K.map fun l => (⟨l.toArray⟩ : ByteArray)).map (·.data.toList) = K := by simp [List.map_map, Function.comp_def]
          have HCL : Hid _ := hcl
          have HMM : Hid _ := hmm
          clear hcl hmm hKe
          go_wp2_with fail
          rw [show K.length = (K.map fun l => (⟨l.toArray⟩ : ByteArray)).length from by simp]
          refine (Tryd.strings_Join g 0 cap _ _ _ HCL.out hgl (by rw [List.length_map]; omega) (by rw [List.length_map]; omega) (by rw [HMM.out]; show (Lib.join K [47]).length ≤ _; omega)).mono ?_
          rintro en w4 ⟨rfl, hb4⟩
          rw [HMM.out, show (⟨#[47]⟩ : ByteArray).data.toList = [47] from rfl]
          obtain ⟨J, HJ, hJl⟩ : ∃ J, Hid (J = Lib.join K [47]) ∧ J.length ≤ 1048577 := ⟨_, rfl, hjl⟩
          rw [← HJ.out] at HF ⊢
          have hbx := hbw.trans (hb4.mono hbw.size)
          clear hb4 hbw hown hb HCL HMM
          go_wp2
          go_ret
          exact ⟨by rw [HF.out]; rfl, hbx⟩
end Go.Proofs.Qxb6601701aDoor
