import Derived.Test.Qxb6601701aDoorW5
namespace Go.Proofs.Qxb6601701aDoor
open Go.RowKit

theorem ret_t {t : ByteArray} {l : List UInt8} (h : t = ⟨l.toArray⟩) : Ending.returned (.string t) = .returned (.string ⟨l.toArray⟩) := by rw [h]

theorem last_get (t : ByteArray) (r : List UInt8) (h : t.data.toList = r) (h1 : 1 < t.size) : r.getLast? = some (t[t.size - 1]) := by
  subst h
  rw [List.getLast?_eq_getElem?]
  show t.data.toList[t.size - 1]? = _
  rw [List.getElem?_eq_getElem (by show t.size - 1 < t.size; omega)]
  rfl

theorem rf_wt (l : List UInt8) : (ren (rf (spl l) [])).length ≤ l.length + 2 := by
  obtain ⟨S0, s, X, e1, _, _⟩ := spl_last l
  have h1 := wt_spl l
  have h2 := wt_fold (spl l) []
  rw [ren_len, e1, rf_snoc, ← e1]
  rw [wt_nil] at h2
  split
  · rw [wt_append, wt_cons, wt_nil]; simp; omega
  · omega

set_option maxHeartbeats 1000000 in
set_option maxRecDepth 100000 in
theorem dm_any (s : ByteArray) (w : World) (hs : s.size ≤ 1048576) :
    Calls Tryd.prog 15 #[.string s] w fun e w' => e = .returned (.string ⟨(dm s.data.toList).toArray⟩) ∧ Below w.heap.size w w' := by
  by_cases h0 : s.size = 0
  · have HF : Hid (dm s.data.toList = s.data.toList) := by
      unfold dm
      rw [show s.data.toList = [] from List.eq_nil_of_length_eq_zero h0]; exact rfl
    go_enter Tryd.func15, Tryd.ntmps15
    go_wp2
    go_ret
    exact ⟨by rw [HF.out, Lib.mk_data]; rfl, Below.refl _ _⟩
  · have h0B : ((s.size : Int) == 0) = false := beq_eq_false_iff_ne.2 (by omega)
    have hp : 0 < s.size := by omega
    have hh := head_of s hp
    have HH : Hid _ := hh
    clear hh h0
    by_cases hc : s[0] = 47
    · have hcB : ((s[0].toNat : Int) != 47) = false := by rw [bne_eq_false_iff_eq]; exact (is47 _).1 hc
      have h47 : s.data.toList.head? = some 47 := by rw [HH.out, hc]
      obtain ⟨r0, hr0⟩ : ∃ r0, s.data.toList = 47 :: r0 := by
        cases h : s.data.toList with
        | nil => rw [h] at h47; simp at h47
        | cons c t => rw [h] at h47; simp at h47; exact ⟨t, by rw [h47]⟩
      obtain ⟨r, Hr, hrl⟩ : ∃ r, Hid (r = ren (rf (spl r0) [])) ∧ r.length ≤ 1048578 := by
        refine ⟨_, rfl, ?_⟩
        have h1 := rf_wt r0
        have h2 := congrArg List.length hr0
        rw [List.length_cons, show s.data.toList.length = s.size from rfl] at h2
        omega
      obtain ⟨ed, He⟩ : ∃ ed, Hid (ed = endD s.data.toList) := ⟨_, rfl⟩
      have HD : Hid (dm s.data.toList = if ed = true ∧ 1 < r.length ∧ r.getLast? = some 47 then r.dropLast else r) := by
        rw [He.out]
        unfold dm
        rw [if_pos h47, hr0, List.tail_cons, ← Hr.out]; exact rfl
      have H0 : Hid _ := hr0
      clear hc h47 HH hr0
      go_enter Tryd.func15, Tryd.ntmps15
      go_wp2_with fail
      refine (rfc_any s w hs r0 H0.out).mono ?_
      rintro en w1 ⟨rfl, hb1⟩
      rw [← Hr.out]
      go_wp2_with fail
      refine (ends_any s _ hs).mono ?_
      rintro en w2 ⟨rfl, rfl⟩
      rw [← He.out]
      cases ed
      · have HF : Hid (dm s.data.toList = r) := by rw [HD.out, if_neg (by simp)]; exact rfl
        go_wp2
        go_ret
        exact ⟨ret_str HF.out.symm, hb1⟩
      · obtain ⟨t, Ht, Htd, ht1, ht2⟩ : ∃ t : ByteArray, Hid (t = ⟨r.toArray⟩) ∧ Hid (t.data.toList = r) ∧ t.size ≤ r.length ∧ r.length ≤ t.size := ⟨_, rfl, rfl, by simp [ByteArray.size], by simp [ByteArray.size]⟩
        rw [← Ht.out]
        by_cases hl : 1 < t.size
        · have hg := last_get t r Htd.out hl
          by_cases hc2 : t[t.size - 1] = 47
          · have HF : Hid (dm s.data.toList = r.dropLast) := by
              rw [HD.out, if_pos ⟨rfl, by omega, by rw [hg, hc2]⟩]; exact rfl
            have hcB2 : ((t[t.size - 1].toNat : Int) == 47) = true := beq_iff_eq.2 ((is47 _).1 hc2)
            clear hc2 hg
            go_wp2
            go_ret
            refine ⟨?_, hb1⟩
            rw [HF.out, List.dropLast_eq_take, ← Htd.out]
            rw [show t.data.toList.length = t.size from rfl, Lib.extract_eq]
            simp
          · have HF : Hid (dm s.data.toList = r) := by
              rw [HD.out, if_neg (by rw [hg]; simp; exact fun _ => hc2)]; exact rfl
            have hcB2 : ((t[t.size - 1].toNat : Int) == 47) = false := beq_eq_false_iff_ne.2 (fun h => hc2 ((is47 _).2 h))
            clear hc2 hg
            go_wp2
            go_ret
            exact ⟨ret_t (by rw [HF.out]; exact Ht.out), hb1⟩
        · have HF : Hid (dm s.data.toList = r) := by
            rw [HD.out, if_neg (by simp; omega)]; exact rfl
          go_wp2
          go_ret
          exact ⟨ret_t (by rw [HF.out]; exact Ht.out), hb1⟩
    · have hcB : ((s[0].toNat : Int) != 47) = true := by rw [bne_iff_ne]; exact fun h => hc ((is47 _).2 h)
      have HF : Hid (dm s.data.toList = s.data.toList) := by
        unfold dm
        rw [if_neg (by rw [HH.out]; simpa using hc)]; exact rfl
      clear hc HH
      go_enter Tryd.func15, Tryd.ntmps15
      go_wp2
      go_ret
      exact ⟨by rw [HF.out, Lib.mk_data]; rfl, Below.refl _ _⟩

set_option maxHeartbeats 400000 in
theorem law2 (s : ByteArray) (m : Int) (w : World) (hs : s.size ≤ 9223372036854775807) (hm : w.cell? ⟨0, 0, none⟩ = some (.int .i64 m)) :
    Calls Tryd.prog 5 #[.string s] w fun en w' => en = .returned (.bool true) ∧ Below w.heap.size w w' := by
  by_cases h1 : (s.size : Int) ≤ 1048576
  · obtain ⟨r, Hr⟩ : ∃ r, Hid (r = dm s.data.toList) := ⟨_, rfl⟩
    go_enter Tryd.func5, Tryd.ntmps5
    go_wp2_with fail
    refine (zzBytes13 s w hs).mono ?_
    rintro en w1 ⟨rfl, rfl⟩
    rw [decide_eq_true h1]
    go_wp2_with fail
    refine (zz_any s m _ (by omega) hm).mono ?_
    rintro en w2 ⟨rfl, hb2⟩
    rw [rfc_law, ← Hr.out]
    go_wp2_with fail
    refine (dm_any s _ (by omega)).mono ?_
    rintro en w3 ⟨rfl, hb3⟩
    rw [← Hr.out]
    have hb4 := hb2.trans (hb3.mono hb2.size)
    clear hb2 hb3
    go_wp2
    go_ret
    exact ⟨rfl, hb4⟩
  · go_enter Tryd.func5, Tryd.ntmps5
    go_wp2_with fail
    refine (zzBytes13 s w hs).mono ?_
    rintro en w1 ⟨rfl, rfl⟩
    rw [decide_eq_false (by omega : ¬ (s.size : Int) ≤ 1048576)]
    go_wp2
    go_ret
    exact ⟨rfl, Below.refl _ _⟩
end Go.Proofs.Qxb6601701aDoor
