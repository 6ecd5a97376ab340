import Derived.Test.Qxb6602401aDoorPl4
namespace Go.Proofs.Qxb6602401aDoor
open Go.RowKit

/-- what may follow a token: the end, a space or a comma -/
def good (rest : List UInt8) : Prop := rest = [] ∨ ∃ c r, rest = c :: r ∧ (isSp c = true ∨ c = 44)

theorem good_dl (rest : List UInt8) (h : good rest) : ixd rest = 0 := by
  rcases h with rfl | ⟨c, r, rfl, h⟩
  · rfl
  · have : isDl c = true := by
      rcases h with h | rfl
      · unfold isDl; rw [h]; simp
      · decide
    simp [ixd, this]

theorem ixd_app : ∀ (t rest : List UInt8), ixd rest = 0 → (∀ x ∈ t, isDl x = false) → ixd (t ++ rest) = t.length
  | [], rest, h, _ => by simpa using h
  | c :: t, rest, h, hn => by
    have h1 := hn c (by simp)
    have ih := ixd_app t rest h (fun x hx => hn x (by simp [hx]))
    simp [ixd, h1, ih]

theorem ixd_all : ∀ (t : List UInt8), ixd (t ++ [44]) = t.length → ∀ x ∈ t, isDl x = false
  | [], _, x, hx => by simp at hx
  | c :: t, h, x, hx => by
    cases hc : isDl c
    · have h2 : ixd (t ++ [44]) = t.length := by simpa [ixd, hc] using h
      rcases List.mem_cons.1 hx with rfl | hx
      · exact hc
      · exact ixd_all t h2 x hx
    · simp [ixd, hc] at h

theorem auto_busy : ∀ (t : List UInt8) (pos st : Nat) (d m : Int), st ≤ 2 → 0 ≤ d → (st ≠ 0 ∨ 1 ≤ d) → (auto (t ++ [44]) pos st d m).1 = pos + t.length → ∀ rest, auto (t ++ rest) pos st d m = auto t pos st d m
  | [], pos, st, d, m, h2, hd, hb, he, rest => by
    exfalso
    rw [List.nil_append, auto_cons, auto_nil, auto_nil, auto_nil, auto_nil] at he
    have e1 : ¬ (44 : UInt8) = 34 := by decide
    have e2 : isOp 44 = false := by decide
    have e3 : isCl 44 = false := by decide
    have e5 : ¬ (44 : UInt8) = 92 := by decide
    rw [if_neg e1, if_neg e1, e2, e3, if_neg e5] at he
    by_cases hs : st = 0
    · have hd1 : ¬ (d = 0 ∧ isSp 44 = false) := by intro h; omega
      rw [if_pos hs, if_neg (by simp), if_neg (by simp), if_neg hd1] at he
      simp at he
    · rw [if_neg hs] at he
      have : ∀ p : Nat × Int, p.1 = pos + 1 → p.1 ≠ pos + 0 := fun p h => by omega
      revert he
      repeat' split
      all_goals simp
  | c :: t, pos, st, d, m, h2, hd, hb, he, rest => by
    have ih := fun st' d' m' a b c' e => auto_busy t (pos + 1) st' d' m' a b c' e rest
    rw [List.cons_append, auto_cons] at he
    rw [List.cons_append, auto_cons, auto_cons]
    rw [List.length_cons] at he
    by_cases hs : st = 0
    · subst hs
      have hd1 : 1 ≤ d := by
        rcases hb with h | h
        · exact absurd rfl h
        · exact h
      rw [if_pos rfl] at he
      rw [if_pos rfl, if_pos rfl]
      by_cases h34 : c = 34
      · rw [if_pos h34] at he
        rw [if_pos h34, if_pos h34]
        exact ih 1 d m (by omega) hd (.inl (by omega)) (by omega)
      · rw [if_neg h34] at he
        rw [if_neg h34, if_neg h34]
        cases hop : isOp c
        · cases hcl : isCl c
          · have hq : ¬ (d = 0 ∧ isSp c = false) := by omega
            simp only [hop, hcl, hq, Bool.false_eq_true, if_false] at he ⊢
            exact ih 0 d m (by omega) hd (.inr hd1) (by omega)
          · by_cases h1 : d - 1 = 0
            · simp only [h1, Bool.false_eq_true, if_false, if_true]
            · simp only [hop, hcl, h1, Bool.false_eq_true, if_false, if_true] at he ⊢
              exact ih 0 (d - 1) m (by omega) (by omega) (.inr (by omega)) (by omega)
        · simp only [hop, if_true] at he ⊢
          exact ih 0 (d + 1) _ (by omega) (by omega) (.inr (by omega)) (by omega)
    · rw [if_neg hs] at he
      rw [if_neg hs, if_neg hs]
      by_cases hs2 : st = 2
      · rw [if_pos hs2] at he
        rw [if_pos hs2, if_pos hs2]
        exact ih 1 d m (by omega) hd (.inl (by omega)) (by omega)
      · rw [if_neg hs2] at he
        rw [if_neg hs2, if_neg hs2]
        by_cases h92 : c = 92
        · rw [if_pos h92] at he
          rw [if_pos h92, if_pos h92]
          exact ih 2 d m (by omega) hd (.inl (by omega)) (by omega)
        · rw [if_neg h92] at he
          rw [if_neg h92, if_neg h92]
          by_cases h34 : c = 34
          · rw [if_pos h34] at he
            rw [if_pos h34, if_pos h34]
            by_cases h0 : d = 0
            · rw [if_pos h0, if_pos h0]
            · rw [if_neg h0] at he
              rw [if_neg h0, if_neg h0]
              exact ih 0 d m (by omega) hd (.inr (by omega)) (by omega)
          · rw [if_neg h34] at he
            rw [if_neg h34, if_neg h34]
            exact ih 1 d m (by omega) hd (.inl (by omega)) (by omega)

/-- a whole token reads the same whatever good text follows -/
theorem auto_tok (c : UInt8) (t : List UInt8) (pos : Nat) (h1 : isSp c = false) (h2 : isCl c = false) (he : (auto (c :: t ++ [44]) pos 0 0 0).1 = pos + (c :: t).length) (rest : List UInt8) (hg : good rest) :
    auto (c :: t ++ rest) pos 0 0 0 = auto (c :: t) pos 0 0 0 := by
  rw [List.cons_append, auto_cons, if_pos rfl, List.length_cons] at he
  rw [List.cons_append, auto_cons, auto_cons, if_pos rfl, if_pos rfl]
  by_cases h34 : c = 34
  · rw [if_pos h34] at he
    rw [if_pos h34, if_pos h34]
    exact auto_busy t (pos + 1) 1 0 0 (by omega) (by omega) (.inl (by omega)) (by omega) rest
  · rw [if_neg h34] at he
    rw [if_neg h34, if_neg h34]
    cases hop : isOp c
    · have hq : ((0 : Int) = 0 ∧ isSp c = false) := ⟨rfl, h1⟩
      simp only [hop, h2, hq, Bool.false_eq_true, if_false, and_self, if_true] at he ⊢
      have hall := ixd_all (c :: t) (by rw [List.length_cons, List.cons_append]; omega)
      have e1 := ixd_app (c :: t) rest (good_dl rest hg) hall
      have e2 := ixd_app (c :: t) [] rfl hall
      rw [List.append_nil] at e2
      rw [List.cons_append] at e1
      rw [e1, e2]
    · simp only [hop, if_true] at he ⊢
      exact auto_busy t (pos + 1) 0 (0 + 1) _ (by omega) (by omega) (.inr (by omega)) (by omega) rest

theorem auto_pad : ∀ (pad x : List UInt8) (pos : Nat) (m : Int), (∀ c ∈ pad, isSp c = true) → auto (pad ++ x) pos 0 0 m = auto x (pos + pad.length) 0 0 m
  | [], _, _, _, _ => rfl
  | c :: pad, x, pos, m, h => by
    have hc := h c (by simp)
    have hop : isOp c = false ∧ isCl c = false ∧ c ≠ 34 := by
      unfold isSp at hc
      simp only [Bool.or_eq_true, beq_iff_eq] at hc
      rcases hc with ((rfl | rfl) | rfl) | rfl <;> decide
    rw [List.cons_append, auto_cons, if_pos rfl, if_neg hop.2.2, hop.1, hop.2.1, if_neg (by simp), if_neg (by simp), if_neg (by rw [hc]; simp), auto_pad pad x (pos + 1) m (fun y hy => h y (by simp [hy])), List.length_cons]
    congr 1
    omega

theorem auto_shift : ∀ (x : List UInt8) (p q st : Nat) (d m : Int), auto x (p + q) st d m = (p + (auto x q st d m).1, (auto x q st d m).2)
  | [], p, q, st, d, m => by
    rw [auto_nil, auto_nil]
    repeat' split
    all_goals rfl
  | c :: r, p, q, st, d, m => by
    have ih := fun st d m => auto_shift r p (q + 1) st d m
    rw [auto_cons, auto_cons, show p + q + 1 = p + (q + 1) from by omega, ih, ih, ih, ih, ih, Nat.add_assoc]
    repeat' split
    all_goals first | rfl | (congr 1; omega)
end Go.Proofs.Qxb6602401aDoor
