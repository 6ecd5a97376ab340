import Derived.Test.Qxb6601701aDoorW2
namespace Go.Proofs.Qxb6601701aDoor
open Go.RowKit

set_option maxHeartbeats 400000 in
theorem zz_any (s : ByteArray) (m : Int) (w : World) (hs : s.size ≤ 1048576) (hm : w.cell? ⟨0, 0, none⟩ = some (.int .i64 m)) :
    Calls Tryd.prog 14 #[.string s] w fun e w' => e = .returned (.string ⟨(rds s.data.toList).toArray⟩) ∧ Below w.heap.size w w' := by
  obtain ⟨r, Hr⟩ : ∃ r, Hid (r = rds s.data.toList) := ⟨_, rfl⟩
  go_enter Tryd.func14, Tryd.ntmps14
  go_wp2_with fail
  refine (rds_any s m w hs hm).mono ?_
  rintro en w1 ⟨rfl, hb⟩
  rw [← Hr.out]
  go_wp2
  go_ret
  exact ⟨ret_str Hr.out, hb⟩

theorem head_of (s : ByteArray) (h : 0 < s.size) : s.data.toList.head? = some s[0] := by
  rw [List.head?_eq_getElem?, List.getElem?_eq_getElem (by exact h)]; rfl

set_option maxHeartbeats 1000000 in
set_option maxRecDepth 100000 in
theorem law1 (s : ByteArray) (m : Int) (w : World) (hs : s.size ≤ 9223372036854775807) (hm : w.cell? ⟨0, 0, none⟩ = some (.int .i64 m)) :
    Calls Tryd.prog 7 #[.string s] w fun en w' => en = .returned (.bool true) ∧ Below w.heap.size w w' := by
  by_cases h1 : (s.size : Int) ≤ 1048576
  · by_cases h0 : s.size = 0
    · have HF : Hid (rds s.data.toList = s.data.toList) := rds_rel _ (by rw [show s.data.toList = [] from List.eq_nil_of_length_eq_zero h0]; simp)
      go_enter Tryd.func7, Tryd.ntmps7
      go_wp2_with fail
      refine (zzBytes17 s w hs).mono ?_
      rintro en w1 ⟨rfl, rfl⟩
      rw [decide_eq_true h1]
      go_wp2_with fail
      refine (zz_any s m _ (by omega) hm).mono ?_
      rintro en w2 ⟨rfl, hb2⟩
      rw [HF.out, Lib.mk_data]
      clear HF
      go_wp2
      go_ret
      exact ⟨rfl, hb2⟩
    · have h0B : ((s.size : Int) == 0) = false := beq_eq_false_iff_ne.2 (by omega)
      have hp : 0 < s.size := by omega
      have hh := head_of s hp
      have HH : Hid _ := hh
      clear hh h0
      by_cases hc : s[0] = 47
      · have hcB : ((s[0].toNat : Int) != 47) = false := by rw [bne_eq_false_iff_eq]; exact (is47 _).1 hc
        have h47 : s.data.toList.head? = some 47 := by rw [HH.out, hc]
        obtain ⟨r, Hr, hrl, Hnd⟩ : ∃ r, Hid (rds s.data.toList = 47 :: r) ∧ (47 :: r).length ≤ s.size ∧ Hid (dotAny (spl r) = false) := by
          refine ⟨_, rds_abs _ h47, ?_, ?_⟩
          · rw [← rds_abs _ h47]; exact rds_len _ h47
          · have := rds_nodot _ h47
            rw [rds_abs _ h47] at this
            exact this
        rw [List.length_cons] at hrl
        clear hc h47 HH
        go_enter Tryd.func7, Tryd.ntmps7
        go_wp2_with fail
        refine (zzBytes17 s w hs).mono ?_
        rintro en w1 ⟨rfl, rfl⟩
        rw [decide_eq_true h1]
        go_wp2_with fail
        refine (zz_any s m _ (by omega) hm).mono ?_
        rintro en w2 ⟨rfl, hb2⟩
        rw [Hr.out]
        obtain ⟨t, Ht, htp, ht⟩ : ∃ t : ByteArray, Hid (t = ⟨(47 :: r).toArray⟩) ∧ 0 < t.size ∧ t.size ≤ r.length + 1 := ⟨_, rfl, by simp [ByteArray.size], by simp [ByteArray.size]⟩
        have ht0 : ((t[0]'htp).toNat : Int) = 47 := by
          have := Ht.out
          subst this
          rfl
        have htd : t.data.toList = 47 :: r := by rw [Ht.out]
        have ht0B : (((t[0]'htp).toNat : Int) == 47) = true := beq_iff_eq.2 ht0
        have ht1 : 1 ≤ t.size := by omega
        have ht2 : t.size ≤ s.size := by omega
        rw [← Ht.out]
        have HTD : Hid _ := htd
        clear ht0 ht htd
        go_wp2_with fail
        refine (hasDot_any t _ ht1 (by omega)).mono ?_
        rintro en w3 ⟨rfl, rfl⟩
        rw [HTD.out, List.tail_cons, Hnd.out]
        go_wp2
        go_ret
        exact ⟨rfl, hb2⟩
      · have hcB : ((s[0].toNat : Int) != 47) = true := by rw [bne_iff_ne]; exact fun h => hc ((is47 _).2 h)
        have HF : Hid (rds s.data.toList = s.data.toList) := rds_rel _ (by rw [HH.out]; simpa using hc)
        clear hc HH
        go_enter Tryd.func7, Tryd.ntmps7
        go_wp2_with fail
        refine (zzBytes17 s w hs).mono ?_
        rintro en w1 ⟨rfl, rfl⟩
        rw [decide_eq_true h1]
        go_wp2_with fail
        refine (zz_any s m _ (by omega) hm).mono ?_
        rintro en w2 ⟨rfl, hb2⟩
        rw [HF.out, Lib.mk_data]
        clear HF
        go_wp2
        go_ret
        exact ⟨rfl, hb2⟩
  · go_enter Tryd.func7, Tryd.ntmps7
    go_wp2_with fail
    refine (zzBytes17 s w hs).mono ?_
    rintro en w1 ⟨rfl, rfl⟩
    rw [decide_eq_false (by omega : ¬ (s.size : Int) ≤ 1048576)]
    go_wp2
    go_ret
    exact ⟨rfl, Below.refl _ _⟩
end Go.Proofs.Qxb6601701aDoor
