/- The plain law of seat b6601590aD: scaledDecimal's text is the power-by-power model's. -/
import Derived.Test.Qxb6601590aDoorW4
namespace Go.Proofs.Qxb6601590aDoor

/-! ### what the model writes, as maps -/
def mp (x : List UInt8) (s : Int) (m : Nat) : List UInt8 := (List.range m).map fun (j : Nat) => dg x (s + j)

theorem rend_add (D : List UInt8) (c top : Int) (m1 m2 : Nat) : rend D c top (m1 + m2) = rend D c top m1 ++ rend D c (top - m1) m2 := by
  induction m2 with
  | zero => simp [rend]
  | succ k ih =>
    rw [← Nat.add_assoc, rend_snoc, ih, rend_snoc, List.append_assoc]
    congr 1; congr 1
    rw [show top - ((m1 + k : Nat) : Int) = top - m1 - k from by omega]

theorem rend_plain (D : List UInt8) (c top : Int) : ∀ m : Nat, (∀ j : Nat, j < m → top - j ≠ -1) → rend D c top m = mp D (c - top) m
  | 0, _ => rfl
  | m + 1, h => by
    rw [rend_snoc, rend_plain D c top m (fun j hj => h j (by omega)), if_neg (h m (by omega))]
    unfold mp
    rw [List.range_succ, List.map_append]
    simp only [List.nil_append, List.map_cons, List.map_nil]
    rw [show c - (top - (m : Int)) = c - top + m from by omega]

theorem mp_add (x : List UInt8) (s : Int) (a b : Nat) : mp x s (a + b) = mp x s a ++ mp x (s + a) b := by
  induction b with
  | zero => simp [mp]
  | succ k ih =>
    have h1 : ∀ (s : Int) (n : Nat), mp x s (n + 1) = mp x s n ++ [dg x (s + n)] := by
      intro s n; unfold mp; rw [List.range_succ, List.map_append]; rfl
    rw [← Nat.add_assoc, h1, ih, h1, List.append_assoc]
    rw [show s + ((a + k : Nat) : Int) = s + a + k from by omega]

theorem rend_pt (D : List UInt8) (c : Int) (q : Nat) : rend D c (-1) (q + 1) = 46 :: mp D (c + 1) (q + 1) := by
  rw [Nat.add_comm q 1, rend_add, rend_plain D c _ q (fun j _ => by omega), mp_add]
  have h1 : rend D c (-1) 1 = [46, dg D (c + 1)] := by
    show rend D c (-1) (0 + 1) = _
    rw [rend_snoc]; simp [rend, show c - -1 = c + 1 from by omega]
  have h2 : mp D (c + 1) 1 = [dg D (c + 1)] := by simp [mp]
  rw [h1, h2, show c - (-1 - ((1 : Nat) : Int)) = c + 1 + ((1 : Nat) : Int) from by omega]
  rfl

theorem mp_get (x : List UInt8) (s : Int) (m i : Nat) (h : i < m) : (mp x s m)[i]? = some (dg x (s + i)) := by
  simp [mp, List.getElem?_map, List.getElem?_range h]

theorem mp_take (x : List UInt8) (n : Nat) (h : n ≤ x.length) : mp x 0 n = x.take n := by
  apply List.ext_getElem?
  intro i
  by_cases hi : i < n
  · rw [mp_get x 0 n i hi, List.getElem?_take, if_pos hi, dg_in x _ (by omega), List.getElem?_eq_getElem (by omega)]
    simp [List.getElem?_eq_getElem (show i < x.length by omega)]
  · rw [List.getElem?_eq_none (by simp [mp]; omega), List.getElem?_eq_none (by simp; omega)]

theorem mp_drop (x : List UInt8) (n : Nat) (h : n ≤ x.length) : mp x n (x.length - n) = x.drop n := by
  have h1 := mp_add x 0 n (x.length - n)
  rw [show n + (x.length - n) = x.length from by omega, mp_take x _ (Nat.le_refl _), mp_take x n h, List.take_of_length_le (Nat.le_refl _)] at h1
  rw [show (0 : Int) + n = n from by omega] at h1
  have h2 : x.take n ++ x.drop n = x.take n ++ mp x n (x.length - n) := by rw [List.take_append_drop]; exact h1
  exact (List.append_cancel_left h2).symm

theorem mp_const (x : List UInt8) (s : Int) (m : Nat) (h : ∀ j : Nat, j < m → dg x (s + j) = 48) : mp x s m = List.replicate m 48 := by
  apply List.ext_getElem?
  intro i
  by_cases hi : i < m
  · rw [mp_get x s m i hi, h i hi, List.getElem?_replicate, if_pos hi]
  · rw [List.getElem?_eq_none (by simp [mp]; omega), List.getElem?_eq_none (by simp; omega)]

theorem repeatL_one (n : Nat) : Lib.repeatL [48] n = List.replicate n 48 := by
  induction n with
  | zero => rfl
  | succ k ih => simp [Lib.repeatL, ih, List.replicate_succ]

/-! ### zeros at the two ends -/
theorem dg_zeros (a : Nat) (x : List UInt8) (k : Int) : dg (List.replicate a 48 ++ x) k = dg x (k - a) := by
  by_cases h0 : 0 ≤ k
  · rw [dg_in _ _ h0]
    by_cases ha : k.toNat < a
    · rw [dg_low x _ (by omega), List.getD_eq_getElem?_getD, List.getElem?_append_left (by simpa using ha), List.getElem?_replicate, if_pos ha]; rfl
    · rw [dg_in x _ (by omega), List.getD_eq_getElem?_getD, List.getElem?_append_right (by simpa using ha), List.getD_eq_getElem?_getD]
      simp only [List.length_replicate]
      rw [show (k - (a : Int)).toNat = k.toNat - a from by omega]
  · rw [dg_low _ _ (by omega), dg_low _ _ (by omega)]

theorem dg_end (z : Nat) (x : List UInt8) (k : Int) : dg (x ++ List.replicate z 48) k = dg x k := by
  by_cases h0 : 0 ≤ k
  · rw [dg_in _ _ h0, dg_in _ _ h0, List.getD_eq_getElem?_getD, List.getD_eq_getElem?_getD]
    by_cases hx : k.toNat < x.length
    · rw [List.getElem?_append_left hx]
    · rw [List.getElem?_append_right (by omega), List.getElem?_eq_none (by omega : x.length ≤ k.toNat), List.getElem?_replicate]
      split <;> rfl
  · rw [dg_low _ _ (by omega), dg_low _ _ (by omega)]

theorem rend_congr (D D' : List UInt8) (c c' top : Int) (h : ∀ p : Int, dg D (c - p) = dg D' (c' - p)) : ∀ m, rend D c top m = rend D' c' top m
  | 0 => rfl
  | m + 1 => by rw [rend_snoc, rend_snoc, rend_congr D D' c c' top h m, h]

theorem nz_zeros (a : Nat) : nzA (List.replicate a 48) = -1 ∧ nzB (List.replicate a 48) = -1 := by
  induction a with
  | zero => exact ⟨rfl, rfl⟩
  | succ k ih => rw [List.replicate_succ', nzA_zero, nzB_zero]; exact ih

theorem nzB_end (l : List UInt8) (z : Nat) : nzB (l ++ List.replicate z 48) = nzB l := by
  induction z with
  | zero => simp
  | succ k ih => rw [List.replicate_succ', ← List.append_assoc, nzB_zero, ih]

theorem snoc_ind {P : List UInt8 → Prop} (h0 : P []) (h1 : ∀ l c, P l → P (l ++ [c])) (l : List UInt8) : P l := by
  have : ∀ n (l : List UInt8), l.length = n → P l := by
    intro n
    induction n with
    | zero => intro l hl; rw [List.eq_nil_of_length_eq_zero hl]; exact h0
    | succ k ih =>
      intro l hl
      have hne : l ≠ [] := by intro e; rw [e] at hl; simp at hl
      rw [← List.dropLast_concat_getLast hne]
      exact h1 _ _ (ih _ (by simp [hl]))
  exact this _ l rfl

theorem nzA_keep (l x : List UInt8) (h : 0 ≤ nzA l) : nzA (l ++ x) = nzA l := by
  refine snoc_ind (P := fun x => nzA (l ++ x) = nzA l) (by simp) (fun x c ih => ?_) x
  rw [← List.append_assoc]
  by_cases hc : c = 48
  · rw [hc, nzA_zero, ih]
  · rw [nzA_pos _ _ hc (by rw [ih]; exact h), ih]

/-! ### the digits, parted -/
theorem dropWhile_zeros (D : List UInt8) : ∃ a, D = List.replicate a 48 ++ D.dropWhile (· == 48) ∧ ∀ c, (D.dropWhile (· == 48)).head? = some c → c ≠ 48 := by
  induction D with
  | nil => exact ⟨0, rfl, fun c h => by simp at h⟩
  | cons x xs ih =>
    by_cases hx : x = 48
    · obtain ⟨a, h1, h2⟩ := ih
      refine ⟨a + 1, ?_, ?_⟩
      · rw [List.dropWhile_cons_of_pos (by simp [hx]), List.replicate_succ, List.cons_append, ← h1, hx]
      · rw [List.dropWhile_cons_of_pos (by simp [hx])]; exact h2
    · refine ⟨0, ?_, ?_⟩
      · rw [List.dropWhile_cons_of_neg (by simp [hx])]; rfl
      · rw [List.dropWhile_cons_of_neg (by simp [hx])]
        intro c h; simp at h; rw [← h]; exact hx

theorem parted (D : List UInt8) : ∃ a z, D = List.replicate a 48 ++ (Lib.trimRightB (Lib.trimLeftB D 48) 48 ++ List.replicate z 48) ∧ Lib.trimLeftB D 48 = Lib.trimRightB (Lib.trimLeftB D 48) 48 ++ List.replicate z 48 ∧
    (∀ c, (Lib.trimLeftB D 48).head? = some c → c ≠ 48) ∧ (∀ c, (Lib.trimRightB (Lib.trimLeftB D 48) 48).getLast? = some c → c ≠ 48) := by
  obtain ⟨a, h1, h2⟩ := dropWhile_zeros D
  obtain ⟨z, h3, h4⟩ := dropWhile_zeros (Lib.trimLeftB D 48).reverse
  have h5 : Lib.trimLeftB D 48 = Lib.trimRightB (Lib.trimLeftB D 48) 48 ++ List.replicate z 48 := by
    have := congrArg List.reverse h3
    rw [List.reverse_reverse, List.reverse_append, List.reverse_replicate] at this
    exact this
  refine ⟨a, z, ?_, h5, h2, ?_⟩
  · rw [← h5]; exact h1
  · intro c hc
    refine h4 c ?_
    unfold Lib.trimRightB at hc
    rw [List.getLast?_reverse] at hc
    exact hc

theorem body_law (neg : Bool) (W F : List UInt8) (e : Int) : mbody neg (W ++ F) (e + (W.length : Int) - 1) = stext neg W F e := by
  obtain ⟨a, z, hD, hd, hh, hl⟩ := parted (W ++ F)
  unfold stext
  have hdl := congrArg List.length hd
  have hDl := congrArg List.length hD
  generalize Lib.trimLeftB (W ++ F) 48 = d at *
  generalize Lib.trimRightB d 48 = sg at *
  simp only [List.length_append, List.length_replicate] at hdl hDl
  unfold mbody
  by_cases hsg : sg = []
  · subst hsg
    have h1 : nzA (W ++ F) = -1 := by
      rw [hD, List.nil_append, List.replicate_append_replicate]; exact (nz_zeros _).1
    rw [if_pos (by omega), if_pos rfl]
  · rw [if_neg hsg]
    have hlen : 1 ≤ sg.length := by cases sg <;> simp_all
    have hA : nzA (W ++ F) = a := by
      obtain ⟨c0, r, hc⟩ : ∃ c0 r, sg = c0 :: r := by cases sg with | nil => exact absurd rfl hsg | cons c r => exact ⟨c, r, rfl⟩
      have hne : c0 ≠ 48 := hh c0 (by rw [hd, hc]; rfl)
      have h0 : nzA (List.replicate a 48 ++ [c0]) = a := by
        rw [nzA_neg _ _ hne (by rw [(nz_zeros a).1]; omega)]; simp
      rw [hD, hc, show List.replicate a (48 : UInt8) ++ (c0 :: r ++ List.replicate z 48) = List.replicate a 48 ++ [c0] ++ (r ++ List.replicate z 48) from by simp, nzA_keep _ _ (by rw [h0]; omega), h0]
    have hB : nzB (W ++ F) = a + sg.length - 1 := by
      have hne : sg.getLast hsg ≠ 48 := hl _ (List.getLast?_eq_some_getLast hsg)
      rw [hD, ← List.append_assoc, nzB_end]
      have hs : sg = sg.dropLast ++ [sg.getLast hsg] := (List.dropLast_concat_getLast hsg).symm
      rw [hs, ← List.append_assoc, nzB_set _ _ hne]
      simp
      omega
    rw [hA, hB, if_neg (by omega)]
    congr 1
    have hR : ∀ top m, rend (W ++ F) (e + (W.length : Int) - 1) top m = rend sg (e + (W.length : Int) - 1 - a) top m := by
      intro top m
      refine rend_congr _ _ _ _ _ (fun p => ?_) m
      rw [hD, dg_zeros, dg_end, show e + (W.length : Int) - 1 - p - a = e + (W.length : Int) - 1 - a - p from by omega]
    rw [hR]
    obtain ⟨E, hE⟩ : ∃ E : Int, E = e + ((d.length : Int) - sg.length - F.length) := ⟨_, rfl⟩
    rw [← hE]
    have hhi : e + (W.length : Int) - 1 - a = E + sg.length - 1 := by omega
    have hlo : e + (W.length : Int) - 1 - (a + (sg.length : Int) - 1) = E := by omega
    rw [hhi, hlo]
    unfold sbody
    by_cases hE0 : 0 ≤ E
    · rw [if_pos hE0, show max (E + (sg.length : Int) - 1) 0 = E + sg.length - 1 from by omega, show min E 0 = 0 from by omega]
      rw [show (E + (sg.length : Int) - 1 - 0 + 1).toNat = sg.length + E.toNat from by omega]
      rw [rend_plain _ _ _ _ (fun j hj => by omega), show E + (sg.length : Int) - 1 - (E + (sg.length : Int) - 1) = 0 from by omega]
      rw [mp_add, mp_take _ _ (Nat.le_refl _), List.take_of_length_le (Nat.le_refl _), repeatL_one]
      rw [mp_const _ _ _ (fun j _ => dg_high sg _ (by omega))]
    · rw [if_neg hE0]
      by_cases hpt : 0 < (sg.length : Int) + E
      · rw [if_pos hpt]
        obtain ⟨pn, hpn⟩ : ∃ pn : Nat, (sg.length : Int) + E = pn := ⟨((sg.length : Int) + E).toNat, by omega⟩
        rw [hpn, Int.toNat_natCast, show max (E + (sg.length : Int) - 1) 0 = pn - 1 from by omega, show min E 0 = E from by omega]
        rw [show ((pn : Int) - 1 - E + 1).toNat = pn + (sg.length - pn - 1 + 1) from by omega, rend_add]
        rw [rend_plain _ _ _ pn (fun j hj => by omega), show E + (sg.length : Int) - 1 - ((pn : Int) - 1) = 0 from by omega, mp_take _ _ (by omega)]
        rw [show (pn : Int) - 1 - pn = -1 from by omega, rend_pt, show E + (sg.length : Int) - 1 + 1 = pn from by omega, show sg.length - pn - 1 + 1 = sg.length - pn from by omega, mp_drop _ _ (by omega)]
        rfl
      · rw [if_neg hpt]
        obtain ⟨zn, hzn⟩ : ∃ zn : Nat, -((sg.length : Int) + E) = zn := ⟨(-((sg.length : Int) + E)).toNat, by omega⟩
        rw [hzn, Int.toNat_natCast, show max (E + (sg.length : Int) - 1) 0 = 0 from by omega, show min E 0 = E from by omega]
        rw [show ((0 : Int) - E + 1).toNat = 1 + (zn + sg.length - 1 + 1) from by omega, rend_add]
        rw [rend_plain _ _ _ 1 (fun j hj => by omega), show (0 : Int) - ((1 : Nat) : Int) = -1 from by omega, rend_pt]
        rw [show E + (sg.length : Int) - 1 + 1 = -zn from by omega, show zn + sg.length - 1 + 1 = zn + sg.length from by omega, mp_add]
        rw [mp_const _ _ zn (fun j hj => dg_low sg _ (by omega)), mp_const _ _ 1 (fun j hj => dg_low sg _ (by omega)), show -(zn : Int) + zn = 0 from by omega, mp_take _ _ (Nat.le_refl _), List.take_of_length_le (Nat.le_refl _), repeatL_one]
        rfl
end Go.Proofs.Qxb6601590aDoor
