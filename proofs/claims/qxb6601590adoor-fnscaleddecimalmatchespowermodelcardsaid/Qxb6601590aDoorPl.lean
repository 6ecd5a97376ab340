/- The plain mathematics of seat b6601590aD: what the model computes, on lists of bytes. -/
import Derived.Test.Qxb6601590aDoorW2
namespace Go.Proofs.Qxb6601590aDoor

/-- the end of the run of digits that begins at a -/
def runEnd (l : List UInt8) (a : Nat) : Nat := a + ((l.drop a).takeWhile isDig).length

theorem runEnd_le (l : List UInt8) (a : Nat) (h : a ≤ l.length) : runEnd l a ≤ l.length := by
  unfold runEnd
  have h1 := (List.takeWhile_prefix (l := l.drop a) isDig).length_le
  rw [List.length_drop] at h1
  omega

theorem le_runEnd (l : List UInt8) (a : Nat) : a ≤ runEnd l a := by unfold runEnd; omega

theorem takeWhile_get {p : UInt8 → Bool} (l : List UInt8) (i : Nat) (h : i < (l.takeWhile p).length) : ∃ c, l[i]? = some c ∧ p c = true := by
  induction l generalizing i with
  | nil => simp at h
  | cons x xs ih =>
    by_cases hx : p x = true
    · simp only [List.takeWhile_cons, hx, if_true, List.length_cons] at h
      cases i with
      | zero => exact ⟨x, rfl, hx⟩
      | succ j =>
        obtain ⟨c, h1, h2⟩ := ih j (by omega)
        exact ⟨c, by simpa using h1, h2⟩
    · simp [hx] at h

theorem takeWhile_stop {p : UInt8 → Bool} (l : List UInt8) (c : UInt8) (h : l[(l.takeWhile p).length]? = some c) : p c = false := by
  induction l with
  | nil => simp at h
  | cons x xs ih =>
    by_cases hx : p x = true
    · simp only [List.takeWhile_cons, hx, if_true, List.length_cons, List.getElem?_cons_succ] at h
      exact ih h
    · simp only [List.takeWhile_cons, hx] at h
      simp at h
      subst h
      simpa using hx

theorem runEnd_dig (s : ByteArray) (a i : Nat) (h1 : a ≤ i) (h2 : i < runEnd s.data.toList a) (hi : i < s.size) : isDig s[i] = true := by
  unfold runEnd at h2
  obtain ⟨c, hc, hp⟩ := takeWhile_get (p := isDig) (s.data.toList.drop a) (i - a) (by omega)
  rw [List.getElem?_drop, show a + (i - a) = i from by omega] at hc
  have : s.data.toList[i]? = some s[i] := by
    rw [List.getElem?_eq_getElem (by simpa using hi)]; rfl
  rw [this] at hc
  rw [Option.some.inj hc]; exact hp

theorem runEnd_stop (s : ByteArray) (a : Nat) (hi : runEnd s.data.toList a < s.size) : isDig (s[runEnd s.data.toList a]'hi) = false := by
  refine takeWhile_stop (p := isDig) (s.data.toList.drop a) _ ?_
  rw [List.getElem?_drop]
  show s.data.toList[runEnd s.data.toList a]? = _
  rw [List.getElem?_eq_getElem (by simpa using hi)]; rfl

def negB (l : List UInt8) : Bool := l.head? == some 45
def wsOf (l : List UInt8) : Nat := if negB l then 1 else 0

theorem negB_get (s : ByteArray) (h : 0 < s.size) : negB s.data.toList = decide ((s[0].toNat : Int) = 45) := by
  have : s.data.toList.head? = some s[0] := by
    rw [List.head?_eq_getElem?, List.getElem?_eq_getElem (by simpa using h)]; rfl
  unfold negB
  rw [this, Bool.eq_iff_iff]
  simp only [beq_iff_eq, Option.some.injEq, decide_eq_true_eq]
  constructor
  · intro e; rw [e]; rfl
  · intro e; apply UInt8.toNat_inj.1; simp; omega

theorem negB_nil (s : ByteArray) (h : s.size = 0) : negB s.data.toList = false := by
  have : s.data.toList = [] := List.eq_nil_of_length_eq_zero (by simpa using h)
  rw [this]; rfl

theorem wsOf_le (l : List UInt8) : wsOf l ≤ l.length := by
  unfold wsOf negB
  cases l <;> simp <;> split <;> omega

/-- the digit at the place k of D; a zero where there is none -/
def dg (D : List UInt8) (k : Int) : UInt8 := if 0 ≤ k then D.getD k.toNat 48 else 48

/-- what the model writes: m powers from top downwards -/
def rend (D : List UInt8) (c top : Int) (m : Nat) : List UInt8 :=
  (List.range m).flatMap fun (j : Nat) => (if top - j = -1 then [46] else []) ++ [dg D (c - (top - j))]

theorem rend_snoc (D : List UInt8) (c top : Int) (m : Nat) : rend D c top (m + 1) = rend D c top m ++ ((if top - m = -1 then [46] else []) ++ [dg D (c - (top - m))]) := by
  unfold rend
  rw [List.range_succ, List.flatMap_append]; simp
theorem rend_len (D : List UInt8) (c top : Int) (h : 0 ≤ top) : ∀ m : Nat, (rend D c top m).length = m + (if top + 1 < m then 1 else 0)
  | 0 => by simp [rend]; omega
  | m + 1 => by
    rw [rend_snoc, List.length_append, rend_len D c top h m]
    by_cases h1 : top - m = -1
    · rw [if_pos h1, if_neg (by omega), if_pos (by omega)]; simp
    · rw [if_neg h1]
      by_cases h2 : top + 1 < m
      · rw [if_pos h2, if_pos (by omega)]; simp
      · rw [if_neg h2, if_neg (by omega)]; simp

theorem dg_in (D : List UInt8) (k : Int) (h0 : 0 ≤ k) : dg D k = D.getD k.toNat 48 := if_pos h0
theorem dg_low (D : List UInt8) (k : Int) (h0 : k < 0) : dg D k = 48 := if_neg (by omega)
theorem dg_high (D : List UInt8) (k : Int) (h0 : (D.length : Int) ≤ k) : dg D k = 48 := by
  unfold dg
  split
  · rw [List.getD_eq_getElem?_getD, List.getElem?_eq_none (by omega)]; rfl
  · rfl

/-- the first and the last place of a byte other than a zero -/
def nzStep (st : Int × Int × Int) (c : UInt8) : Int × Int × Int := if c = 48 then (st.1, st.2.1, st.2.2 + 1) else (if st.1 < 0 then st.2.2 else st.1, st.2.2, st.2.2 + 1)
def nz (D : List UInt8) : Int × Int × Int := D.foldl nzStep (-1, -1, 0)

def nzA (D : List UInt8) : Int := (nz D).1
def nzB (D : List UInt8) : Int := (nz D).2.1
theorem nz_snoc (l : List UInt8) (c : UInt8) : nz (l ++ [c]) = nzStep (nz l) c := by simp [nz]
theorem nz_len (l : List UInt8) : (nz l).2.2 = l.length := by
  have h : ∀ (l : List UInt8) (st : Int × Int × Int), (l.foldl nzStep st).2.2 = st.2.2 + l.length := by
    intro l
    induction l with
    | nil => intro st; simp
    | cons x xs ih =>
      intro st
      rw [List.foldl_cons, ih]
      unfold nzStep
      split <;> simp <;> omega
  simpa [nz] using h l (-1, -1, 0)
theorem nzA_zero (l : List UInt8) : nzA (l ++ [48]) = nzA l := by simp [nzA, nz_snoc, nzStep]
theorem nzB_zero (l : List UInt8) : nzB (l ++ [48]) = nzB l := by simp [nzB, nz_snoc, nzStep]
theorem nzA_neg (l : List UInt8) (c : UInt8) (h : c ≠ 48) (ha : nzA l < 0) : nzA (l ++ [c]) = l.length := by
  unfold nzA at *
  rw [nz_snoc]; unfold nzStep; rw [if_neg h, if_pos ha, nz_len]
theorem nzA_pos (l : List UInt8) (c : UInt8) (h : c ≠ 48) (ha : 0 ≤ nzA l) : nzA (l ++ [c]) = nzA l := by
  unfold nzA at *
  rw [nz_snoc]; unfold nzStep; rw [if_neg h, if_neg (by omega)]
theorem nzB_set (l : List UInt8) (c : UInt8) (h : c ≠ 48) : nzB (l ++ [c]) = l.length := by
  unfold nzB
  rw [nz_snoc]; unfold nzStep; rw [if_neg h, nz_len]

def mbody (neg : Bool) (D : List UInt8) (c : Int) : List UInt8 :=
  if nzA D < 0 then [] else
    (if neg then [45] else []) ++ rend D c (max (c - nzA D) 0) (max (c - nzA D) 0 - min (c - nzB D) 0 + 1).toNat

/-- W: the digits ahead of the point; F: those behind it -/
def model (l : List UInt8) (e : Int) : List UInt8 × Bool :=
  if runEnd l (wsOf l) = wsOf l then ([], false)
  else if runEnd l (wsOf l) < l.length then
    if l.getD (runEnd l (wsOf l)) 0 ≠ 46 then ([], false)
    else if runEnd l (runEnd l (wsOf l) + 1) = runEnd l (wsOf l) + 1 ∨ runEnd l (runEnd l (wsOf l) + 1) ≠ l.length then ([], false)
    else (mbody (negB l) ((l.drop (wsOf l)).take (runEnd l (wsOf l) - wsOf l) ++ (l.drop (runEnd l (wsOf l) + 1)).take (l.length - (runEnd l (wsOf l) + 1))) (e + (runEnd l (wsOf l) - wsOf l : Nat) - 1), true)
  else (mbody (negB l) ((l.drop (wsOf l)).take (runEnd l (wsOf l) - wsOf l) ++ (l.drop (runEnd l (wsOf l))).take 0) (e + (runEnd l (wsOf l) - wsOf l : Nat) - 1), true)

def bc (c : UInt8) : Value := .int .u8 c.toNat

/-- the cells of a list of bytes (a word of its own, so that no rule opens it in a walk) -/
def Bs (l : List UInt8) : List Value := l.map bc
def seg (s : ByteArray) (a j : Nat) : List UInt8 := (s.data.toList.drop a).take j
theorem Bs_snoc (l : List UInt8) (c : UInt8) : Bs l ++ [bc c] = Bs (l ++ [c]) := by simp [Bs]
theorem Bs_len (l : List UInt8) : (Bs l).length = l.length := by simp [Bs]
theorem Bs_get (l : List UInt8) (i : Nat) (h : i < l.length) : (Bs l)[i]? = some (.int .u8 (l.getD i 0).toNat) := by
  simp [Bs, bc, h]

theorem snoc_drop (s : ByteArray) (a j : Nat) (h : a + j < s.size) : (s.data.toList.drop a).take (j + 1) = (s.data.toList.drop a).take j ++ [s[a + j]] := by
  rw [List.take_succ_eq_append_getElem (by rw [List.length_drop]; show j < s.size - a; omega), List.getElem_drop]; rfl
theorem seg_snoc (s : ByteArray) (a j : Nat) (h : a + j < s.size) : seg s a (j + 1) = seg s a j ++ [s[a + j]] := snoc_drop s a j h
theorem seg_len (s : ByteArray) (a j : Nat) (h : a + j ≤ s.size) : (seg s a j).length = j := by
  unfold seg
  rw [List.length_take, List.length_drop]
  show min j (s.size - a) = j
  omega
end Go.Proofs.Qxb6601590aDoor
