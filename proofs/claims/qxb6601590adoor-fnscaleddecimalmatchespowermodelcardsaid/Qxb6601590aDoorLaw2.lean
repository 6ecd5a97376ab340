/- The plain law of seat b6601590aD, second part: the two readings of the text agree. -/
import Derived.Test.Qxb6601590aDoorLaw
import Derived.Lib.IndexBytes
namespace Go.Proofs.Qxb6601590aDoor

theorem cut_nil : Lib.cut [] [46] = ([], [], false) := by decide
theorem cut_hit (r : List UInt8) : Lib.cut (46 :: r) [46] = ([], r, true) := by
  unfold Lib.cut
  have h : Lib.index (46 :: r) [46] = 0 := by rw [Lib.index_one]; simp [Lib.indexByte]
  rw [h]; simp
theorem cut_miss (c : UInt8) (r : List UInt8) (hc : c ≠ 46) : Lib.cut (c :: r) [46] = (c :: (Lib.cut r [46]).1, (Lib.cut r [46]).2.1, (Lib.cut r [46]).2.2) := by
  unfold Lib.cut
  rw [Lib.index_one, Lib.index_one]
  have hge := Lib.indexByte_ge r 46
  have h : Lib.indexByte (c :: r) 46 = if Lib.indexByte r 46 == -1 then -1 else Lib.indexByte r 46 + 1 := by
    rw [Lib.indexByte]; simp [hc]
  rw [h]
  by_cases h1 : Lib.indexByte r 46 = -1
  · simp [h1]
  · have h2 : 0 ≤ Lib.indexByte r 46 := by omega
    have h3 : (Lib.indexByte r 46 == -1) = false := by simp [h1]
    rw [h3]
    simp only [Bool.false_eq_true, if_false]
    rw [if_pos (by omega), if_pos h2]
    obtain ⟨n, hn⟩ : ∃ n : Nat, Lib.indexByte r 46 = n := ⟨(Lib.indexByte r 46).toNat, by omega⟩
    rw [hn, show ((n : Int) + 1).toNat = n + 1 from by omega]
    simp only [Int.toNat_natCast]
    simp

theorem dig_ne46 {c : UInt8} (h : isDig c = true) : c ≠ 46 := by
  intro e; subst e; revert h; decide

theorem cut_digits (W T : List UInt8) (h : W.all isDig = true) : Lib.cut (W ++ T) [46] = (W ++ (Lib.cut T [46]).1, (Lib.cut T [46]).2.1, (Lib.cut T [46]).2.2) := by
  induction W with
  | nil => simp
  | cons c W ih =>
    simp only [List.all_cons, Bool.and_eq_true] at h
    rw [List.cons_append, cut_miss c _ (dig_ne46 h.1), ih h.2]
    simp

theorem takeWhile_all (r : List UInt8) : (r.takeWhile isDig).all isDig = true := by
  induction r with
  | nil => rfl
  | cons x xs ih =>
    by_cases hx : isDig x = true
    · rw [List.takeWhile_cons_of_pos hx, List.all_cons, hx, ih]; rfl
    · rw [List.takeWhile_cons_of_neg hx]; rfl

theorem digs_all (W : List UInt8) (h : W.all isDig = true) : digs W = !W.isEmpty := by simp [digs, h]

theorem takeWhile_len_eq (F : List UInt8) : (F.takeWhile isDig).length = F.length ↔ F.all isDig = true := by
  constructor
  · intro h
    have h1 : F.takeWhile isDig = F := (List.takeWhile_prefix (l := F) isDig).eq_of_length h
    rw [← h1]; exact takeWhile_all F
  · intro h
    induction F with
    | nil => rfl
    | cons x xs ih =>
      simp only [List.all_cons, Bool.and_eq_true] at h
      rw [List.takeWhile_cons_of_pos h.1, List.length_cons, List.length_cons, ih h.2]

theorem digs_iff (F : List UInt8) : digs F = false ↔ ((F.takeWhile isDig).length = 0 ∨ (F.takeWhile isDig).length ≠ F.length) := by
  unfold digs
  rw [Bool.and_eq_false_iff]
  constructor
  · rintro (h | h)
    · left
      have : F = [] := by cases F <;> simp_all
      rw [this]; rfl
    · right; intro e; rw [takeWhile_len_eq, h] at e; cases e
  · rintro (h | h)
    · cases F with
      | nil => left; rfl
      | cons c F =>
        right
        by_cases hc : isDig c = true
        · rw [List.takeWhile_cons_of_pos hc] at h; simp at h
        · simp [hc]
    · right
      cases hb : F.all isDig
      · rfl
      · exact absurd ((takeWhile_len_eq F).2 hb) h

theorem negB_has (l : List UInt8) : negB l = Lib.hasPrefix l [45] := by
  unfold negB Lib.hasPrefix
  cases l with
  | nil => rfl
  | cons c r =>
    rw [Bool.eq_iff_iff]
    simp [List.isPrefixOf]
    exact eq_comm

theorem drop_ws (l : List UInt8) : l.drop (wsOf l) = Lib.trimPrefix l [45] := by
  unfold wsOf Lib.trimPrefix
  rw [← negB_has]
  cases negB l <;> simp

theorem plain_law (l : List UInt8) (e : Int) : sdec l e = model l e := by
  have hws := wsOf_le l
  have hl : l.length = wsOf l + (Lib.trimPrefix l [45]).length := by rw [← drop_ws, List.length_drop]; omega
  unfold sdec model
  rw [← negB_has]
  have hre : runEnd l (wsOf l) = wsOf l + ((Lib.trimPrefix l [45]).takeWhile isDig).length := by unfold runEnd; rw [drop_ws]
  have hpart : Lib.trimPrefix l [45] = (Lib.trimPrefix l [45]).takeWhile isDig ++ (Lib.trimPrefix l [45]).dropWhile isDig := (List.takeWhile_append_dropWhile).symm
  have hWall := takeWhile_all (Lib.trimPrefix l [45])
  have hdr : ∀ k, l.drop (wsOf l + k) = (Lib.trimPrefix l [45]).drop k := by intro k; rw [← drop_ws, List.drop_drop]
  have hget : ∀ k, l.getD (wsOf l + k) 0 = (Lib.trimPrefix l [45]).getD k 0 := by
    intro k; rw [← drop_ws, List.getD_eq_getElem?_getD, List.getD_eq_getElem?_getD, List.getElem?_drop]
  have hstop : ∀ c T', (Lib.trimPrefix l [45]).dropWhile isDig = c :: T' → isDig c = false := by
    intro c T' h
    have := List.head?_dropWhile_not isDig (Lib.trimPrefix l [45])
    rw [h] at this
    simpa using this
  rw [hre, drop_ws]
  generalize Lib.trimPrefix l [45] = r at *
  generalize r.takeWhile isDig = W at *
  generalize r.dropWhile isDig = T at *
  subst hpart
  rw [cut_digits W T hWall]
  have hWl : ((W ++ T).take (wsOf l + W.length - wsOf l)) = W := by
    rw [show wsOf l + W.length - wsOf l = W.length from by omega]; simp
  rw [hWl, show wsOf l + W.length - wsOf l = W.length from by omega]
  simp only [List.length_append] at hl
  by_cases hW0 : W = []
  · -- no digit ahead
    subst hW0
    rw [if_pos (show wsOf l + ([] : List UInt8).length = wsOf l from by simp)]
    cases T with
    | nil => rw [cut_nil]; rw [if_pos (by left; rfl)]
    | cons c T' =>
      by_cases hc : c = 46
      · subst hc
        rw [cut_hit]; rw [if_pos (by left; rfl)]
      · rw [cut_miss c T' hc]
        rw [if_pos]
        left
        have := hstop c T' rfl
        simp [digs, this]
  · have hWp : 1 ≤ W.length := by cases W <;> simp_all
    rw [if_neg (show ¬ wsOf l + W.length = wsOf l from by omega)]
    have hdW : digs W = true := by rw [digs_all W hWall]; cases W <;> simp_all
    cases T with
    | nil =>
      rw [cut_nil]
      simp only [List.append_nil, List.length_nil, Nat.add_zero] at hl ⊢
      rw [if_neg (by simp [hdW]), if_neg (show ¬ wsOf l + W.length < l.length from by omega)]
      have := body_law (negB l) W [] e
      rw [List.append_nil] at this
      simp [this]
    | cons c T' =>
      simp only [List.length_cons] at hl
      rw [if_pos (show wsOf l + W.length < l.length from by omega), hget]
      have hgc : (W ++ c :: T').getD W.length 0 = c := by simp
      rw [hgc]
      by_cases hc : c = 46
      · subst hc
        rw [cut_hit]
        simp only [List.append_nil, ne_eq, not_true_eq_false, if_false]
        have hF : l.drop (wsOf l + W.length + 1) = T' := by
          rw [show wsOf l + W.length + 1 = wsOf l + (W.length + 1) from by omega, hdr]; simp
        have hre2 : runEnd l (wsOf l + W.length + 1) = wsOf l + W.length + 1 + (T'.takeWhile isDig).length := by unfold runEnd; rw [hF]
        rw [hre2, hF]
        rw [show l.length - (wsOf l + W.length + 1) = T'.length from by omega, List.take_of_length_le (Nat.le_refl _)]
        by_cases hbad : digs T' = false
        · rw [if_pos (by right; exact ⟨trivial, hbad⟩), if_pos]
          rcases (digs_iff T').1 hbad with h | h
          · left; omega
          · right; omega
        · rw [if_neg (by simp [hdW]; simpa using hbad), if_neg, body_law]
          intro h
          apply hbad
          rw [digs_iff]
          rcases h with h | h
          · left; omega
          · right; omega
      · rw [cut_miss c T' hc, if_pos hc, if_pos]
        left
        have := hstop c T' rfl
        simp [digs, this]
end Go.Proofs.Qxb6601590aDoor
