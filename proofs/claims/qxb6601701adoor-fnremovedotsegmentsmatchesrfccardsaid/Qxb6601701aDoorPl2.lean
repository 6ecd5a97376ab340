/- The plain mathematics of seat b6601701aD, second part: the algorithm of RFC 3986, section 5.2.4, on segments. -/
import Derived.Test.Qxb6601701aDoorPl
namespace Go.Proofs.Qxb6601701aDoor

/-- the output buffer: each segment behind its '/' -/
def ren (K : List (List UInt8)) : List UInt8 := Lib.joinTail [47] K
theorem ren_nil : ren [] = [] := rfl
theorem ren_snoc (K : List (List UInt8)) (s : List UInt8) : ren (K ++ [s]) = ren K ++ 47 :: s := by simp [ren, Lib.joinTail]
theorem ren_len (K : List (List UInt8)) : (ren K).length = wt K := rfl

/-- what the buffers come to: the segments that are left, those that are kept -/
def rf : List (List UInt8) → List (List UInt8) → List (List UInt8)
  | [], K => K
  | [s], K => if isDot s then kp K s ++ [[]] else K ++ [s]
  | s :: t :: S, K => rf (t :: S) (kp K s)

theorem rf_one (s : List UInt8) (K : List (List UInt8)) : rf [s] K = if isDot s then kp K s ++ [[]] else K ++ [s] := rfl
theorem rf_more (s : List UInt8) (S K : List (List UInt8)) (h : S ≠ []) : rf (s :: S) K = rf S (kp K s) := by
  cases S with
  | nil => exact absurd rfl h
  | cons t S => rfl

theorem rf_snoc (S0 : List (List UInt8)) (s : List UInt8) : ∀ K, rf (S0 ++ [s]) K = if isDot s then (S0 ++ [s]).foldl kp K ++ [[]] else (S0 ++ [s]).foldl kp K := by
  induction S0 with
  | nil =>
    intro K
    rw [List.nil_append, rf_one]
    cases h : isDot s
    · have : s ≠ [46] ∧ s ≠ [46, 46] := by simpa [isDot] using h
      simp [kp, this.1, this.2]
    · simp
  | cons x S0 ih =>
    intro K
    rw [List.cons_append, rf_more _ _ _ (by simp), ih]
    simp

/-- a text is without a '/', or parted at its first one -/
theorem first47 (l : List UInt8) : (47 : UInt8) ∉ l ∨ ∃ x r, l = x ++ 47 :: r ∧ (47 : UInt8) ∉ x := by
  by_cases h : Lib.indexByte l 47 = -1
  · exact .inl (byte_none l 47 h)
  · right
    have hge := Lib.indexByte_ge l 47
    obtain ⟨i, hi⟩ : ∃ i : Nat, Lib.indexByte l 47 = i := ⟨(Lib.indexByte l 47).toNat, by omega⟩
    obtain ⟨e1, e2⟩ := byte_some l 47 i hi
    exact ⟨_, _, e1, e2⟩

theorem spl_last (l : List UInt8) : ∃ S0 s X, spl l = S0 ++ [s] ∧ (47 :: l) = X ++ 47 :: s ∧ (47 : UInt8) ∉ s := by
  have key : ∀ (n : Nat) (l : List UInt8), l.length ≤ n → ∃ S0 s X, spl l = S0 ++ [s] ∧ (47 :: l) = X ++ 47 :: s ∧ (47 : UInt8) ∉ s := by
    intro n
    induction n with
    | zero => intro l h; have : l = [] := List.eq_nil_of_length_eq_zero (by omega); subst this; exact ⟨[], [], [], rfl, rfl, by simp⟩
    | succ n ih =>
      intro l h
      rcases first47 l with hm | ⟨x, r, rfl, hx⟩
      · exact ⟨[], l, [], spl_none l hm, rfl, hm⟩
      · obtain ⟨S0, s, X, e1, e2, e3⟩ := ih r (by simp at h; omega)
        refine ⟨x :: S0, s, 47 :: x ++ X, ?_, ?_, e3⟩
        · rw [spl_hit x r hx, e1]; rfl
        · rw [e2]; simp
  exact key _ l (Nat.le_refl _)

/-- ends the path in a '.' or '..' segment -/
def endD (l : List UInt8) : Bool := [47, 46].isSuffixOf l || [47, 46, 46].isSuffixOf l

theorem endD_last (X s : List UInt8) (hs : (47 : UInt8) ∉ s) : endD (X ++ 47 :: s) = isDot s := by
  rw [Bool.eq_iff_iff]
  unfold endD isDot
  simp only [Bool.or_eq_true, List.isSuffixOf_iff_suffix, beq_iff_eq]
  constructor
  · rintro (⟨Y, h⟩ | ⟨Y, h⟩)
    · left
      have h2 := congrArg List.reverse h
      simp at h2
      rcases hr : s.reverse with _ | ⟨a, _ | ⟨b, r⟩⟩
      · rw [hr] at h2; simp at h2
      · rw [hr] at h2; simp at h2
        have := congrArg List.reverse hr
        simp at this; rw [this, ← h2.1]
      · rw [hr] at h2; simp at h2
        exfalso; apply hs
        have : (47 : UInt8) ∈ s.reverse := by rw [hr, ← h2.2.1]; simp
        simpa using this
    · right
      have h2 := congrArg List.reverse h
      simp at h2
      rcases hr : s.reverse with _ | ⟨a, _ | ⟨b, _ | ⟨c, r⟩⟩⟩
      · rw [hr] at h2; simp at h2
      · rw [hr] at h2; simp at h2
      · rw [hr] at h2; simp at h2
        have := congrArg List.reverse hr
        simp at this; rw [this, ← h2.1, ← h2.2.1]
      · rw [hr] at h2; simp at h2
        exfalso; apply hs
        have : (47 : UInt8) ∈ s.reverse := by rw [hr, ← h2.2.2.1]; simp
        simpa using this
  · rintro (rfl | rfl)
    · left; exact ⟨X, rfl⟩
    · right; exact ⟨X, rfl⟩

/-- the model's answer -/
def dm (l : List UInt8) : List UInt8 :=
  if l.head? = some 47 then
    if endD l = true ∧ 1 < (ren (rf (spl l.tail) [])).length ∧ (ren (rf (spl l.tail) [])).getLast? = some 47 then (ren (rf (spl l.tail) [])).dropLast else ren (rf (spl l.tail) [])
  else l

theorem rfc_law (l : List UInt8) : rds l = dm l := by
  unfold dm
  by_cases h : l.head? = some 47
  · rw [rds_abs l h, if_pos h]
    obtain ⟨t, rfl⟩ : ∃ t, l = 47 :: t := by
      cases l with
      | nil => simp at h
      | cons c t => simp at h; exact ⟨t, by rw [h]⟩
    rw [List.tail_cons]
    obtain ⟨S0, s, X, e1, e2, e3⟩ := spl_last t
    rw [e2, endD_last X s e3]
    have hrf := rf_snoc S0 s []
    rw [e1, hrf]
    cases hd : isDot s
    · -- the last segment is kept
      have hs : s ≠ [46] ∧ s ≠ [46, 46] := by simpa [isDot] using hd
      have hk : kept (S0 ++ [s]) = kept S0 ++ [s] := by rw [kept_snoc]; simp [kp, hs.1, hs.2]
      rw [if_neg (by simp)]
      simp only [Bool.false_eq_true, if_false]
      rw [slash_join _ (by rw [hk]; simp)]
      rfl
    · simp only [if_true, true_and]
      show 47 :: Lib.join (kept (S0 ++ [s])) [47] = if 1 < (ren (kept (S0 ++ [s]) ++ [[]])).length ∧ (ren (kept (S0 ++ [s]) ++ [[]])).getLast? = some 47 then (ren (kept (S0 ++ [s]) ++ [[]])).dropLast else ren (kept (S0 ++ [s]) ++ [[]])
      rw [ren_snoc]
      by_cases hK : kept (S0 ++ [s]) = []
      · rw [hK, if_neg (by simp [ren_nil])]; rfl
      · rw [if_pos, slash_join _ hK]
        · simp [ren]
        · refine ⟨?_, by simp⟩
          have := len_le_wt (kept (S0 ++ [s]))
          have h1 : 1 ≤ (kept (S0 ++ [s])).length := by
            cases hh : kept (S0 ++ [s]) with
            | nil => exact absurd hh hK
            | cons => simp
          simp [ren_len]; omega
  · rw [rds_rel l h, if_neg h]

/-! ### one round, at a rest that opens with '/' -/
theorem rf_dot_more (r : List UInt8) (K : List (List UInt8)) : rf (spl (46 :: 47 :: r)) K = rf (spl r) K := by
  rw [show (46 : UInt8) :: 47 :: r = [46] ++ 47 :: r from rfl, spl_hit _ _ (by decide), rf_more _ _ _ (spl_ne r)]; simp [kp]
theorem rf_dot_end (K : List (List UInt8)) : rf (spl [46]) K = rf (spl []) K := by
  rw [spl_none _ (by decide), rf_one, show spl [] = [[]] from rfl, rf_one]; simp [isDot, kp]
theorem rf_dots_more (r : List UInt8) (K : List (List UInt8)) : rf (spl (46 :: 46 :: 47 :: r)) K = rf (spl r) K.dropLast := by
  rw [show (46 : UInt8) :: 46 :: 47 :: r = [46, 46] ++ 47 :: r from rfl, spl_hit _ _ (by decide), rf_more _ _ _ (spl_ne r)]; simp [kp]
theorem rf_dots_end (K : List (List UInt8)) : rf (spl [46, 46]) K = rf (spl []) K.dropLast := by
  rw [spl_none _ (by decide), rf_one, show spl [] = [[]] from rfl, rf_one]; simp [isDot, kp]
theorem rf_seg_more (s r : List UInt8) (K : List (List UInt8)) (hs : (47 : UInt8) ∉ s) (hd : isDot s = false) : rf (spl (s ++ 47 :: r)) K = rf (spl r) (K ++ [s]) := by
  have h : s ≠ [46] ∧ s ≠ [46, 46] := by simpa [isDot] using hd
  rw [spl_hit _ _ hs, rf_more _ _ _ (spl_ne r)]; simp [kp, h.1, h.2]
theorem rf_seg_end (s : List UInt8) (K : List (List UInt8)) (hs : (47 : UInt8) ∉ s) (hd : isDot s = false) : rf (spl s) K = K ++ [s] := by
  rw [spl_none _ hs, rf_one, hd]; simp
end Go.Proofs.Qxb6601701aDoor
