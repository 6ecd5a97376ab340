import Derived.Test.Qxb6602401aDoorPl
import Derived.Test.Qxb6602401aDoorShelf
namespace Go.Proofs.Qxb6602401aDoor
open Go.RowKit

/-- the closing quote by the escape automaton -/
def cqa : List UInt8 → Nat → Bool → Nat
  | [], pos, _ => pos
  | c :: r, pos, esc => if esc then cqa r (pos + 1) false else if c = 92 then cqa r (pos + 1) true else if c = 34 then pos else cqa r (pos + 1) false

theorem cqa_cons (c : UInt8) (r : List UInt8) (pos : Nat) (esc : Bool) : cqa (c :: r) pos esc = if esc then cqa r (pos + 1) false else if c = 92 then cqa r (pos + 1) true else if c = 34 then pos else cqa r (pos + 1) false := by
  rw [cqa]

theorem cqa_none : ∀ (l : List UInt8) (pos : Nat) (esc : Bool), (34 : UInt8) ∉ l → cqa l pos esc = pos + l.length
  | [], _, _, _ => rfl
  | c :: r, pos, esc, h => by
    have h1 : c ≠ 34 := fun e => h (by simp [e])
    have h2 : (34 : UInt8) ∉ r := fun e => h (by simp [e])
    rw [cqa_cons, List.length_cons, if_neg h1, cqa_none r _ _ h2, cqa_none r _ _ h2]
    split
    · omega
    · split <;> omega

theorem cqa_plain : ∀ (Y r : List UInt8) (pos : Nat) (esc : Bool), (34 : UInt8) ∉ Y → Y ≠ [] → Y.getLast? ≠ some 92 → cqa (Y ++ r) pos esc = cqa r (pos + Y.length) false
  | [], _, _, _, _, h, _ => absurd rfl h
  | [c], r, pos, esc, h, _, hl => by
    have h1 : c ≠ 34 := fun e => h (by simp [e])
    have h2 : c ≠ 92 := fun e => hl (by simp [e])
    simp [cqa, h1, h2]
  | c :: d :: Y, r, pos, esc, h, _, hl => by
    have h1 : c ≠ 34 := fun e => h (by simp [e])
    have h2 : (34 : UInt8) ∉ (d :: Y) := fun e => h (List.mem_cons_of_mem _ e)
    have h3 : (d :: Y).getLast? ≠ some 92 := by simpa using hl
    have ih : ∀ e, cqa ((d :: Y) ++ r) (pos + 1) e = cqa r (pos + (c :: d :: Y).length) false := fun e => by
      rw [cqa_plain (d :: Y) r (pos + 1) e h2 (by simp) h3]
      congr 1
      simp; omega
    show cqa (c :: ((d :: Y) ++ r)) pos esc = _
    rw [cqa_cons, if_neg h1, ih, ih]
    split
    · rfl
    · split <;> rfl

theorem cqa_bs : ∀ (k : Nat) (r : List UInt8) (pos : Nat), cqa (List.replicate k 92 ++ r) pos false = cqa r (pos + k) (decide (k % 2 = 1))
  | 0, _, _ => rfl
  | 1, r, pos => by simp [cqa]
  | k + 2, r, pos => by
    have ih := cqa_bs k r (pos + 2)
    rw [List.replicate_succ, List.replicate_succ, List.cons_append, List.cons_append]
    rw [cqa_cons, if_neg (by simp), if_pos rfl, cqa_cons, if_pos rfl, show pos + 1 + 1 = pos + 2 from rfl, ih, show pos + 2 + k = pos + (k + 2) from by omega]
    congr 1
    rw [decide_eq_decide]
    omega

theorem seg_split (l : List UInt8) (a c q : Nat) (h1 : a ≤ c) (h2 : c ≤ q) (h3 : q < l.length) : l.drop a = (l.drop a).take (c - a) ++ ((l.drop c).take (q - c) ++ (l.getD q 0 :: l.drop (q + 1))) := by
  have e1 : l.drop a = (l.drop a).take (c - a) ++ l.drop c := by
    have := (List.take_append_drop (c - a) (l.drop a)).symm
    rw [List.drop_drop, show a + (c - a) = c from by omega] at this
    exact this
  have e2 : l.drop c = (l.drop c).take (q - c) ++ l.drop q := by
    have := (List.take_append_drop (q - c) (l.drop c)).symm
    rw [List.drop_drop, show c + (q - c) = q from by omega] at this
    exact this
  have e3 : l.drop q = l.getD q 0 :: l.drop (q + 1) := by
    rw [List.drop_eq_getElem_cons h3]
    simp [h3]
  rw [← e3, ← e2, ← e1]

theorem seg_get (l : List UInt8) (a n i : Nat) (h : i < n) (hl : a + n ≤ l.length) : ((l.drop a).take n)[i]? = some (l.getD (a + i) 0) := by
  rw [List.getElem?_take_of_lt h, List.getElem?_drop, List.getElem?_eq_getElem (by omega)]
  simp [(by omega : a + i < l.length)]

theorem cq_step (l : List UInt8) (fr q bs : Nat) (h1 : fr ≤ q) (h2 : q < l.length) (hq : l.getD q 0 = 34) (hno : ∀ j, fr ≤ j → j < q → l.getD j 0 ≠ 34) (hb : bs ≤ q - fr)
    (hbs : ∀ j, j < bs → l.getD (q - 1 - j) 0 = 92) (hst : q - bs = fr ∨ l.getD (q - 1 - bs) 0 ≠ 92) :
    cqa (l.drop fr) fr false = if bs % 2 = 0 then q else cqa (l.drop (q + 1)) (q + 1) false := by
  have hsp := seg_split l fr (q - bs) q (by omega) (by omega) h2
  have hrep : (l.drop (q - bs)).take (q - (q - bs)) = List.replicate bs 92 := by
    rw [show q - (q - bs) = bs from by omega, List.eq_replicate_iff]
    refine ⟨by simp; omega, fun x hx => ?_⟩
    obtain ⟨i, hi, rfl⟩ := List.mem_iff_getElem.1 hx
    have hil : i < bs := by simp at hi; omega
    have h5 := seg_get l (q - bs) bs i hil (by omega)
    rw [List.getElem?_eq_getElem hi] at h5
    rw [Option.some.inj h5]
    have h6 := hbs (bs - 1 - i) (by omega)
    rw [show q - 1 - (bs - 1 - i) = q - bs + i from by omega] at h6
    exact h6
  rw [hrep, hq] at hsp
  rw [hsp]
  have hYl : ((l.drop fr).take (q - bs - fr)).length = q - bs - fr := by simp; omega
  have hmid : cqa ((l.drop fr).take (q - bs - fr) ++ (List.replicate bs 92 ++ 34 :: l.drop (q + 1))) fr false = cqa (List.replicate bs 92 ++ 34 :: l.drop (q + 1)) (q - bs) false := by
    by_cases he : q - bs = fr
    · rw [show q - bs - fr = 0 from by omega, List.take_zero, List.nil_append, he]
    · have hst2 : l.getD (q - 1 - bs) 0 ≠ 92 := by
        rcases hst with h | h
        · exact absurd h he
        · exact h
      rw [cqa_plain _ _ fr false ?_ ?_ ?_, hYl, show fr + (q - bs - fr) = q - bs from by omega]
      · intro hm
        obtain ⟨i, hi, e⟩ := List.mem_iff_getElem.1 hm
        rw [hYl] at hi
        have h5 := seg_get l fr (q - bs - fr) i hi (by omega)
        rw [List.getElem?_eq_getElem (by rw [hYl]; exact hi), e] at h5
        exact hno (fr + i) (by omega) (by omega) (Option.some.inj h5).symm
      · intro e
        rw [e] at hYl
        simp at hYl
        omega
      · rw [List.getLast?_eq_getElem?, hYl]
        have h5 := seg_get l fr (q - bs - fr) (q - bs - fr - 1) (by omega) (by omega)
        rw [h5, show fr + (q - bs - fr - 1) = q - 1 - bs from by omega]
        intro e
        exact hst2 (Option.some.inj e)
  rw [hmid, cqa_bs, show q - bs + bs = q from by omega]
  rw [cqa_cons]
  by_cases hp : bs % 2 = 0
  · rw [if_pos hp, decide_eq_false (by omega)]
    simp
  · rw [if_neg hp, decide_eq_true (by omega)]
    rfl

theorem ib_cases : ∀ (l : List UInt8) (c : UInt8), (Lib.indexByte l c = -1 ∧ c ∉ l) ∨ ∃ k : Nat, Lib.indexByte l c = k ∧ k < l.length ∧ l.getD k 0 = c ∧ ∀ j, j < k → l.getD j 0 ≠ c
  | [], c => .inl ⟨rfl, by simp⟩
  | b :: l, c => by
    by_cases h : b = c
    · subst h
      exact .inr ⟨0, by unfold Lib.indexByte; rw [if_pos (beq_self_eq_true b)]; rfl, by simp, rfl, fun j hj => absurd hj (Nat.not_lt_zero _)⟩
    · have hB : ¬ (b == c) = true := fun e => h (beq_iff_eq.1 e)
      rcases ib_cases l c with ⟨h1, h2⟩ | ⟨k, h1, h2, h3, h4⟩
      · refine .inl ⟨by unfold Lib.indexByte; rw [if_neg hB, h1]; rfl, ?_⟩
        simp [h2]
        exact fun e => h e.symm
      · refine .inr ⟨k + 1, by unfold Lib.indexByte; rw [if_neg hB, h1, if_neg (by simp)]; omega, by simpa using h2, by simpa using h3, fun j hj => ?_⟩
        cases j with
        | zero => simpa using h
        | succ j => simpa using h4 j (by omega)
end Go.Proofs.Qxb6602401aDoor
