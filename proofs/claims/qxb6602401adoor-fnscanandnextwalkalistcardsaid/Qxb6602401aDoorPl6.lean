import Derived.Test.Qxb6602401aDoorW13
namespace Go.Proofs.Qxb6602401aDoor
open Go.RowKit

/-- what follows a token -/
def rst (pad : List UInt8) : List (List UInt8) → List UInt8
  | [] => pad
  | t :: ts => pad ++ (44 :: (pad ++ (t ++ rst pad ts)))
/-- what stands ahead of token k -/
def sepK (pad : List UInt8) (k : Nat) : List UInt8 := if k = 0 then [] else pad ++ (44 :: pad)
/-- what is laid when k tokens are laid -/
def pre (pad : List UInt8) (vs : List (List UInt8)) : Nat → List UInt8
  | 0 => pad
  | k + 1 => pre pad vs k ++ (sepK pad k ++ vs.getD k [])
def dat (pad : List UInt8) (vs : List (List UInt8)) : List UInt8 := pre pad vs vs.length ++ pad

theorem rst_good (pad : List UInt8) (h : ∀ c ∈ pad, isSp c = true) (ts : List (List UInt8)) : good (rst pad ts) := by
  cases pad with
  | nil =>
    cases ts with
    | nil => exact .inl rfl
    | cons t ts => exact .inr ⟨44, _, rfl, .inr rfl⟩
  | cons c p =>
    have hc := h c (by simp)
    cases ts with
    | nil => exact .inr ⟨c, _, rfl, .inl hc⟩
    | cons t ts => exact .inr ⟨c, _, rfl, .inl hc⟩

theorem pre_rst (pad : List UInt8) (vs : List (List UInt8)) : ∀ m k, vs.length = k + m → 1 ≤ k → pre pad vs k ++ rst pad (vs.drop k) = dat pad vs
  | 0, k, h, _ => by
    rw [List.drop_eq_nil_of_le (by omega)]
    unfold dat
    rw [show vs.length = k from by omega]
    rfl
  | m + 1, k, h, hk => by
    have ih := pre_rst pad vs m (k + 1) (by omega) (by omega)
    rw [← ih, List.drop_eq_getElem_cons (by omega : k < vs.length)]
    show pre pad vs k ++ (pad ++ (44 :: (pad ++ (vs[k] ++ rst pad (vs.drop (k + 1)))))) = pre pad vs k ++ (sepK pad k ++ vs.getD k []) ++ rst pad (vs.drop (k + 1))
    unfold sepK
    rw [if_neg (by omega)]
    simp [(by omega : k < vs.length)]

/-- where token k begins -/
def stK (pad : List UInt8) (vs : List (List UInt8)) (k : Nat) : Nat := (pre pad vs k).length + (sepK pad k).length

theorem dat_at (pad : List UInt8) (vs : List (List UInt8)) (k : Nat) (hk : k < vs.length) : dat pad vs = pre pad vs k ++ (sepK pad k ++ (vs.getD k [] ++ rst pad (vs.drop (k + 1)))) := by
  have h := pre_rst pad vs (vs.length - (k + 1)) (k + 1) (by omega) (by omega)
  rw [← h]
  show pre pad vs k ++ (sepK pad k ++ vs.getD k []) ++ rst pad (vs.drop (k + 1)) = _
  simp only [List.append_assoc]

theorem dat_drop (pad : List UInt8) (vs : List (List UInt8)) (k : Nat) (hk : k < vs.length) : (dat pad vs).drop (stK pad vs k) = vs.getD k [] ++ rst pad (vs.drop (k + 1)) := by
  rw [dat_at pad vs k hk, ← List.append_assoc]
  unfold stK
  rw [← List.length_append, List.drop_left]

theorem stK_zero (pad : List UInt8) (vs : List (List UInt8)) : stK pad vs 0 = pad.length := by simp [stK, pre, sepK]
theorem stK_succ (pad : List UInt8) (vs : List (List UInt8)) (k : Nat) : stK pad vs (k + 1) = stK pad vs k + (vs.getD k []).length + 2 * pad.length + 1 := by
  unfold stK
  show (pre pad vs k ++ (sepK pad k ++ vs.getD k [])).length + (sepK pad (k + 1)).length = _
  unfold sepK
  rw [if_neg (by omega : ¬ k + 1 = 0)]
  simp only [List.length_append, List.length_cons]
  omega

theorem pre_succ_len (pad : List UInt8) (vs : List (List UInt8)) (k : Nat) : (pre pad vs (k + 1)).length = (pre pad vs k).length + (vs.getD k []).length + (if k = 0 then 0 else 2 * pad.length + 1) := by
  show (pre pad vs k ++ (sepK pad k ++ vs.getD k [])).length = _
  unfold sepK
  split
  · simp
  · simp only [List.length_append, List.length_cons]; omega

theorem getD_drop (l : List UInt8) (a i : Nat) : l.getD (a + i) 0 = (l.drop a).getD i 0 := by
  rw [List.getD_eq_getElem?_getD, List.getD_eq_getElem?_getD, List.getElem?_drop]

/-- white space from i on: pad, then what is no white space or the end -/
theorem sk_pad (l pad r : List UInt8) (n i : Nat) (hl : l.length = n) (h : l.drop i = pad ++ r) (hi : i ≤ n) (hp : ∀ c ∈ pad, isSp c = true) (hr : r = [] ∨ ∃ c t, r = c :: t ∧ isSp c = false) : SkTo l n i (i + pad.length) := by
  have hlen := congrArg List.length h
  rw [List.length_drop, List.length_append, hl] at hlen
  refine ⟨by omega, by omega, fun j h1 h2 => ?_, ?_⟩
  · obtain ⟨q, rfl⟩ : ∃ q, j = i + q := ⟨j - i, by omega⟩
    rw [getD_drop, h, List.getD_eq_getElem?_getD, List.getElem?_append_left (by omega), List.getElem?_eq_getElem (by omega)]
    exact hp _ (List.getElem_mem _)
  · rcases hr with rfl | ⟨c, t, rfl, hc⟩
    · left; simp at hlen; omega
    · right
      rw [getD_drop, h, List.getD_eq_getElem?_getD, List.getElem?_append_right (Nat.le_refl _), Nat.sub_self]
      exact hc
end Go.Proofs.Qxb6602401aDoor
