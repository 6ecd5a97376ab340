/- The plain mathematics of seat b6601701aD, third part: the input buffer, byte by byte. -/
import Derived.Test.Qxb6601701aDoorPl2
namespace Go.Proofs.Qxb6601701aDoor

theorem drop_getD (I : List UInt8) (p : Nat) (c : UInt8) (r : List UInt8) (h : I.drop p = c :: r) (j : Nat) : I.getD (p + j) 0 = (c :: r).getD j 0 := by
  rw [← h, List.getD_eq_getElem?_getD, List.getD_eq_getElem?_getD, List.getElem?_drop]

theorem drop_len (I : List UInt8) (p : Nat) (c : UInt8) (r : List UInt8) (h : I.drop p = c :: r) : I.length = p + 1 + r.length := by
  have := congrArg List.length h
  rw [List.length_drop, List.length_cons] at this
  omega

theorem drop_more (I : List UInt8) (p : Nat) (x r : List UInt8) (h : I.drop p = x ++ r) : I.drop (p + x.length) = r := by
  rw [← List.drop_drop, h]; simp

/-- the four tests of the algorithm at a rest that opens with '/' -/
def k3 (I : List UInt8) (p : Nat) : Bool := decide (p + 3 ≤ I.length) && (decide (I.getD (p + 1) 0 = 46) && decide (I.getD (p + 2) 0 = 47))
def k4 (I : List UInt8) (p : Nat) : Bool := decide (p + 2 = I.length) && decide (I.getD (p + 1) 0 = 46)
def k5 (I : List UInt8) (p : Nat) : Bool := decide (p + 4 ≤ I.length) && (decide (I.getD (p + 1) 0 = 46) && (decide (I.getD (p + 2) 0 = 46) && decide (I.getD (p + 3) 0 = 47)))
def k6 (I : List UInt8) (p : Nat) : Bool := decide (p + 3 = I.length) && (decide (I.getD (p + 1) 0 = 46) && decide (I.getD (p + 2) 0 = 46))

theorem k3_rest (I : List UInt8) (p : Nat) (r : List UInt8) (h : I.drop p = 47 :: r) (hk : k3 I p = true) : ∃ r', r = 46 :: 47 :: r' := by
  have hl := drop_len I p 47 r h
  have h1 := drop_getD I p 47 r h 1
  have h2 := drop_getD I p 47 r h 2
  simp only [k3, Bool.and_eq_true, decide_eq_true_eq] at hk
  rw [h1, h2] at hk
  match r, hl, hk with
  | [], hl, hk => simp at hl; omega
  | [a], hl, hk => simp at hl; omega
  | a :: b :: r', _, hk => simp at hk; exact ⟨r', by rw [hk.2.1, hk.2.2]⟩

theorem k4_rest (I : List UInt8) (p : Nat) (r : List UInt8) (h : I.drop p = 47 :: r) (hk : k4 I p = true) : r = [46] := by
  have hl := drop_len I p 47 r h
  have h1 := drop_getD I p 47 r h 1
  simp only [k4, Bool.and_eq_true, decide_eq_true_eq] at hk
  rw [h1] at hk
  match r, hl, hk with
  | [], hl, hk => simp at hl; omega
  | [a], _, hk => simp at hk; rw [hk.2]
  | a :: b :: r', hl, hk => simp at hl; omega

theorem k5_rest (I : List UInt8) (p : Nat) (r : List UInt8) (h : I.drop p = 47 :: r) (hk : k5 I p = true) : ∃ r', r = 46 :: 46 :: 47 :: r' := by
  have hl := drop_len I p 47 r h
  have h1 := drop_getD I p 47 r h 1
  have h2 := drop_getD I p 47 r h 2
  have h3 := drop_getD I p 47 r h 3
  simp only [k5, Bool.and_eq_true, decide_eq_true_eq] at hk
  rw [h1, h2, h3] at hk
  match r, hl, hk with
  | [], hl, hk => simp at hl; omega
  | [a], hl, hk => simp at hl; omega
  | [a, b], hl, hk => simp at hl; omega
  | a :: b :: c :: r', _, hk => simp at hk; exact ⟨r', by rw [hk.2.1, hk.2.2.1, hk.2.2.2]⟩

theorem k6_rest (I : List UInt8) (p : Nat) (r : List UInt8) (h : I.drop p = 47 :: r) (hk : k6 I p = true) : r = [46, 46] := by
  have hl := drop_len I p 47 r h
  have h1 := drop_getD I p 47 r h 1
  have h2 := drop_getD I p 47 r h 2
  simp only [k6, Bool.and_eq_true, decide_eq_true_eq] at hk
  rw [h1, h2] at hk
  match r, hl, hk with
  | [], hl, hk => simp at hl; omega
  | [a], hl, hk => simp at hl; omega
  | [a, b], _, hk => simp at hk; rw [hk.2.1, hk.2.2]
  | a :: b :: c :: r', hl, hk => simp at hl; omega

/-- the segment that stands at p, behind its '/' -/
def sg (I : List UInt8) (p : Nat) : List UInt8 := (I.drop (p + 1)).takeWhile (· ≠ 47)

theorem sg_clean (I : List UInt8) (p : Nat) : (47 : UInt8) ∉ sg I p := by
  unfold sg
  generalize I.drop (p + 1) = l
  induction l with
  | nil => simp
  | cons c l ih =>
    by_cases hc : c = 47
    · simp [hc]
    · rw [List.takeWhile_cons_of_pos (by simp [hc])]
      simp only [List.mem_cons, not_or]
      exact ⟨fun e => hc e.symm, ih⟩

theorem sg_rest (I : List UInt8) (p : Nat) (r : List UInt8) (h : I.drop p = 47 :: r) : r = sg I p ∨ ∃ r', r = sg I p ++ 47 :: r' := by
  have h1 : I.drop (p + 1) = r := drop_more I p [47] r h
  unfold sg
  rw [h1]
  have h2 := List.takeWhile_append_dropWhile (p := fun c : UInt8 => decide (c ≠ 47)) (l := r)
  cases hd : r.dropWhile (fun c : UInt8 => decide (c ≠ 47)) with
  | nil => left; rw [hd] at h2; simpa using h2.symm
  | cons c r' =>
    right
    have h3 := List.head?_dropWhile_not (fun c : UInt8 => decide (c ≠ 47)) r
    rw [hd] at h3 h2
    simp at h3
    subst h3
    exact ⟨r', h2.symm⟩

theorem sg_nodot (I : List UInt8) (p : Nat) (r : List UInt8) (h : I.drop p = 47 :: r) (h3 : k3 I p = false) (h4 : k4 I p = false) (h5 : k5 I p = false) (h6 : k6 I p = false) : isDot (sg I p) = false := by
  have hl := drop_len I p 47 r h
  have g1 := drop_getD I p 47 r h 1
  have g2 := drop_getD I p 47 r h 2
  have g3 := drop_getD I p 47 r h 3
  cases hd : isDot (sg I p)
  · rfl
  · exfalso
    have hd2 : sg I p = [46] ∨ sg I p = [46, 46] := by simpa [isDot] using hd
    simp only [k3, k4, k5, k6, g1, g2, g3, hl] at h3 h4 h5 h6
    rcases sg_rest I p r h with e | ⟨r', e⟩
    · rcases hd2 with e2 | e2
      · rw [e2] at e; subst e; simp at h4
      · rw [e2] at e; subst e; simp at h6
    · rcases hd2 with e2 | e2
      · rw [e2] at e; subst e; simp at h3; omega
      · rw [e2] at e; subst e; simp at h5; omega

theorem sg_in (I : List UInt8) (p : Nat) (r : List UInt8) (h : I.drop p = 47 :: r) (j : Nat) (h1 : p + 1 ≤ j) (h2 : j < p + 1 + (sg I p).length) : I.getD j 0 ≠ 47 := by
  have e : I.drop (p + 1) = r := drop_more I p [47] r h
  obtain ⟨i, rfl⟩ : ∃ i, j = p + 1 + i := ⟨j - (p + 1), by omega⟩
  have hi : i < (sg I p).length := by omega
  have h3 : I.getD (p + 1 + i) 0 = (sg I p)[i] := by
    have h4 : (sg I p)[i]? = (I.drop (p + 1))[i]? := by
      rcases sg_rest I p r h with e2 | ⟨r', e2⟩
      · rw [e, ← e2]
      · rw [e, e2, List.getElem?_append_left hi]
    rw [List.getElem?_drop, List.getElem?_eq_getElem hi] at h4
    rw [List.getD_eq_getElem?_getD, ← h4]; rfl
  rw [h3]
  intro e3
  exact sg_clean I p (e3 ▸ List.getElem_mem hi)

theorem sg_len (I : List UInt8) (p : Nat) (r : List UInt8) (h : I.drop p = 47 :: r) : p + 1 + (sg I p).length ≤ I.length := by
  have hl := drop_len I p 47 r h
  rcases sg_rest I p r h with e | ⟨r', e⟩
  · rw [← e]; omega
  · rw [e] at hl; simp at hl; omega

theorem sg_stop (I : List UInt8) (p : Nat) (r : List UInt8) (h : I.drop p = 47 :: r) (hlt : p + 1 + (sg I p).length < I.length) : I.getD (p + 1 + (sg I p).length) 0 = 47 := by
  have hl := drop_len I p 47 r h
  have e : I.drop (p + 1) = r := drop_more I p [47] r h
  rcases sg_rest I p r h with e2 | ⟨r', e2⟩
  · rw [← e2] at hlt; omega
  · have h4 : (I.drop (p + 1))[(sg I p).length]? = some 47 := by
      rw [e]
      have h5 : (sg I p ++ 47 :: r')[(sg I p).length]? = some 47 := by simp
      rw [← e2] at h5; exact h5
    rw [List.getElem?_drop] at h4
    rw [List.getD_eq_getElem?_getD, h4]; rfl

/-- the piece that is copied -/
theorem sg_piece (I : List UInt8) (p : Nat) (r : List UInt8) (h : I.drop p = 47 :: r) (j : Nat) (hj : j < 1 + (sg I p).length) : (47 :: sg I p)[j]? = some (I.getD (p + j) 0) := by
  have e : I.drop (p + 1) = r := drop_more I p [47] r h
  cases j with
  | zero => rw [drop_getD I p 47 r h 0]; rfl
  | succ i =>
    have hi : i < (sg I p).length := by omega
    rw [List.getElem?_cons_succ]
    have h4 : (sg I p)[i]? = (I.drop (p + 1))[i]? := by
      rcases sg_rest I p r h with e2 | ⟨r', e2⟩
      · rw [e, ← e2]
      · conv => rhs; rw [e, e2, List.getElem?_append_left hi]
    rw [List.getElem?_drop] at h4
    rw [h4, List.getD_eq_getElem?_getD, show p + (i + 1) = p + 1 + i from by omega, ← h4, List.getElem?_eq_getElem hi]; rfl
end Go.Proofs.Qxb6601701aDoor
