/- The plain mathematics of seat b6601701aD: a path's segments. -/
import Derived.Lib.Split
import Derived.Lib.Join
import Derived.Lib.IndexBytes
namespace Go.Proofs.Qxb6601701aDoor

/-- a text, cut at every '/' -/
def spl : List UInt8 → List (List UInt8)
  | [] => [[]]
  | c :: r => if c = 47 then [] :: spl r else match spl r with
    | [] => [[c]]
    | h :: t => (c :: h) :: t

theorem spl_ne (l : List UInt8) : spl l ≠ [] := by
  cases l with
  | nil => simp [spl]
  | cons c r =>
    unfold spl
    split
    · simp
    · split <;> simp

theorem spl_none : ∀ (x : List UInt8), (47 : UInt8) ∉ x → spl x = [x]
  | [], _ => rfl
  | c :: r, h => by
    simp only [List.mem_cons, not_or] at h
    rw [spl, if_neg (fun e => h.1 e.symm), spl_none r h.2]

theorem spl_hit : ∀ (x r : List UInt8), (47 : UInt8) ∉ x → spl (x ++ 47 :: r) = x :: spl r
  | [], r, _ => by simp [spl]
  | c :: x, r, h => by
    simp only [List.mem_cons, not_or] at h
    rw [List.cons_append, spl, if_neg (fun e => h.1 e.symm), spl_hit x r h.2]

theorem spl_clean : ∀ (l : List UInt8), ∀ s ∈ spl l, (47 : UInt8) ∉ s
  | [], s, hs => by simp [spl] at hs; subst hs; simp
  | c :: r, s, hs => by
    have ih := spl_clean r
    rw [spl] at hs
    split at hs
    · simp only [List.mem_cons] at hs
      rcases hs with rfl | hs
      · simp
      · exact ih s hs
    · rename_i hc
      cases h : spl r with
      | nil => exact absurd h (spl_ne r)
      | cons x t =>
        rw [h] at hs
        simp only [List.mem_cons] at hs
        rcases hs with rfl | hs
        · have := ih x (by rw [h]; simp)
          simp only [List.mem_cons, not_or]
          exact ⟨fun e => hc e.symm, this⟩
        · exact ih s (by rw [h]; simp [hs])

/-- the weight of a list of segments: each with its '/' -/
def wt (S : List (List UInt8)) : Nat := (Lib.joinTail [47] S).length
theorem wt_nil : wt [] = 0 := rfl
theorem wt_cons (s : List UInt8) (S : List (List UInt8)) : wt (s :: S) = s.length + 1 + wt S := by
  simp [wt, Lib.joinTail]; omega
theorem wt_append (A B : List (List UInt8)) : wt (A ++ B) = wt A + wt B := by
  induction A with
  | nil => simp [wt_nil]
  | cons a A ih => rw [List.cons_append, wt_cons, wt_cons, ih]; omega

theorem wt_spl : ∀ l : List UInt8, wt (spl l) = l.length + 1
  | [] => rfl
  | c :: r => by
    have ih := wt_spl r
    rw [spl]
    split
    · rw [wt_cons, ih]; simp; omega
    · cases h : spl r with
      | nil => exact absurd h (spl_ne r)
      | cons x t =>
        rw [h, wt_cons] at ih
        simp only [wt_cons, List.length_cons]
        omega

theorem wt_dropLast (K : List (List UInt8)) : wt K.dropLast ≤ wt K := by
  induction K with
  | nil => simp
  | cons a K ih =>
    cases K with
    | nil => simp [wt_nil]
    | cons b K => rw [List.dropLast_cons_cons, wt_cons, wt_cons]; omega

theorem len_le_wt (K : List (List UInt8)) : K.length ≤ wt K := by
  induction K with
  | nil => simp
  | cons a K ih => rw [wt_cons, List.length_cons]; omega

/-- what is kept of the segments: one step, and all -/
def kp (K : List (List UInt8)) (s : List UInt8) : List (List UInt8) := if s = [46] then K else if s = [46, 46] then K.dropLast else K ++ [s]
def kept (S : List (List UInt8)) : List (List UInt8) := S.foldl kp []

theorem kept_snoc (S : List (List UInt8)) (s : List UInt8) : kept (S ++ [s]) = kp (kept S) s := by simp [kept]

theorem wt_kp (K : List (List UInt8)) (s : List UInt8) : wt (kp K s) ≤ wt K + wt [s] := by
  unfold kp
  split
  · omega
  · split
    · have := wt_dropLast K; omega
    · rw [wt_append]; exact Nat.le_refl _

theorem wt_fold (S : List (List UInt8)) : ∀ K, wt (S.foldl kp K) ≤ wt K + wt S := by
  induction S with
  | nil => intro K; simp [wt_nil]
  | cons s S ih =>
    intro K
    have h1 := ih (kp K s)
    have h2 := wt_kp K s
    rw [wt_cons] at h2 ⊢
    rw [wt_nil] at h2
    rw [List.foldl_cons]
    omega

theorem wt_kept (S : List (List UInt8)) : wt (kept S) ≤ wt S := by
  have := wt_fold S []
  rw [wt_nil] at this
  unfold kept; omega

theorem kp_mem {K : List (List UInt8)} {s x : List UInt8} (h : x ∈ kp K s) : x ∈ K ∨ (x = s ∧ s ≠ [46] ∧ s ≠ [46, 46]) := by
  unfold kp at h
  split at h
  · exact .inl h
  · split at h
    · exact .inl (List.dropLast_subset _ h)
    · rename_i h1 h2
      simp only [List.mem_append, List.mem_cons, List.not_mem_nil, or_false] at h
      rcases h with h | h
      · exact .inl h
      · exact .inr ⟨h, h1, h2⟩

theorem fold_mem (S : List (List UInt8)) : ∀ K x, x ∈ S.foldl kp K → x ∈ K ∨ (x ∈ S ∧ x ≠ [46] ∧ x ≠ [46, 46]) := by
  induction S with
  | nil => intro K x h; exact .inl h
  | cons s S ih =>
    intro K x h
    rcases ih _ x h with h1 | ⟨h1, h2⟩
    · rcases kp_mem h1 with h3 | ⟨rfl, h3⟩
      · exact .inl h3
      · exact .inr ⟨by simp, h3⟩
    · exact .inr ⟨by simp [h1], h2⟩

theorem kept_mem {S : List (List UInt8)} {x : List UInt8} (h : x ∈ kept S) : x ∈ S ∧ x ≠ [46] ∧ x ≠ [46, 46] := by
  rcases fold_mem S [] x h with h | h
  · simp at h
  · exact h

/-- the answer of removeDotSegments -/
def rds (p : List UInt8) : List UInt8 := if p.head? = some 47 then 47 :: Lib.join (kept (spl p.tail)) [47] else p

theorem slash_join (K : List (List UInt8)) (h : K ≠ []) : 47 :: Lib.join K [47] = Lib.joinTail [47] K := by
  cases K with
  | nil => exact absurd rfl h
  | cons x r => rw [Lib.join_cons]; simp [Lib.joinTail]

theorem join_len (K : List (List UInt8)) : (Lib.join K [47]).length ≤ wt K := by
  cases K with
  | nil => simp [Lib.join_nil]
  | cons x r =>
    have := congrArg List.length (slash_join (x :: r) (by simp))
    rw [List.length_cons] at this
    unfold wt; omega

theorem spl_tail (K : List (List UInt8)) (hK : ∀ s ∈ K, (47 : UInt8) ∉ s) : ∀ x, (47 : UInt8) ∉ x → spl (x ++ Lib.joinTail [47] K) = x :: K := by
  induction K with
  | nil => intro x hx; simp only [Lib.joinTail, List.map_nil, List.flatten_nil, List.append_nil]; exact spl_none x hx
  | cons y K ih =>
    intro x hx
    have e : Lib.joinTail [47] (y :: K) = 47 :: (y ++ Lib.joinTail [47] K) := by simp [Lib.joinTail]
    rw [e, spl_hit x _ hx, ih (fun s hs => hK s (by simp [hs])) y (hK y (by simp))]

theorem spl_join (K : List (List UInt8)) (hK : ∀ s ∈ K, (47 : UInt8) ∉ s) (h : K ≠ []) : spl (Lib.join K [47]) = K := by
  cases K with
  | nil => exact absurd rfl h
  | cons x r => rw [Lib.join_cons]; exact spl_tail r (fun s hs => hK s (by simp [hs])) x (hK x (by simp))

/-- a '.' or '..' segment -/
def isDot (s : List UInt8) : Bool := s == [46] || s == [46, 46]
def dotAny (S : List (List UInt8)) : Bool := S.any isDot

/-! ### the law of the first statement -/
theorem rds_rel (p : List UInt8) (h : p.head? ≠ some 47) : rds p = p := if_neg h
theorem rds_abs (p : List UInt8) (h : p.head? = some 47) : rds p = 47 :: Lib.join (kept (spl p.tail)) [47] := if_pos h

theorem rds_len (p : List UInt8) (h : p.head? = some 47) : (rds p).length ≤ p.length := by
  rw [rds_abs p h]
  have hp : p.length = p.tail.length + 1 := by cases p <;> simp at h ⊢
  by_cases hK : kept (spl p.tail) = []
  · rw [hK, Lib.join_nil]; simp; omega
  · rw [slash_join _ hK]
    have h1 := wt_kept (spl p.tail)
    rw [wt_spl] at h1
    unfold wt at h1
    omega

theorem rds_nodot (p : List UInt8) (h : p.head? = some 47) : dotAny (spl ((rds p).drop 1)) = false := by
  rw [rds_abs p h, List.drop_succ_cons, List.drop_zero]
  by_cases hK : kept (spl p.tail) = []
  · rw [hK, Lib.join_nil]; rfl
  · rw [spl_join _ (fun s hs => spl_clean _ s (kept_mem hs).1) hK]
    unfold dotAny
    rw [List.any_eq_false]
    intro s hs
    have := (kept_mem hs).2
    simp [isDot, this.1, this.2]

/-! ### the library's split at one '/' -/
theorem byte_none (s : List UInt8) (c : UInt8) (h : Lib.indexByte s c = -1) : c ∉ s := by
  induction s with
  | nil => simp
  | cons x r ih =>
    rw [Lib.indexByte] at h
    have hge := Lib.indexByte_ge r c
    by_cases hx : x = c
    · subst hx; simp at h
    · have hx2 : (x == c) = false := by simp [hx]
      rw [hx2] at h
      simp only [Bool.false_eq_true, if_false] at h
      by_cases h2 : Lib.indexByte r c = -1
      · simp only [List.mem_cons, not_or]; exact ⟨fun e => hx e.symm, ih h2⟩
      · have h3 : (Lib.indexByte r c == -1) = false := by simp [h2]
        rw [h3] at h
        simp only [Bool.false_eq_true, if_false] at h
        omega

theorem byte_some (s : List UInt8) (c : UInt8) (i : Nat) (h : Lib.indexByte s c = i) : s = s.take i ++ c :: s.drop (i + 1) ∧ c ∉ s.take i := by
  induction s generalizing i with
  | nil => simp [Lib.indexByte] at h
  | cons x r ih =>
    rw [Lib.indexByte] at h
    have hge := Lib.indexByte_ge r c
    by_cases hx : x = c
    · subst hx
      simp at h
      obtain rfl : i = 0 := by omega
      simp
    · have hx2 : (x == c) = false := by simp [hx]
      rw [hx2] at h
      simp only [Bool.false_eq_true, if_false] at h
      by_cases h2 : Lib.indexByte r c = -1
      · rw [h2] at h; simp at h
      · have h3 : (Lib.indexByte r c == -1) = false := by simp [h2]
        rw [h3] at h
        simp only [Bool.false_eq_true, if_false] at h
        obtain ⟨j, rfl⟩ : ∃ j, i = j + 1 := ⟨i - 1, by omega⟩
        obtain ⟨e1, e2⟩ := ih j (by omega)
        refine ⟨?_, ?_⟩
        · simp only [List.take_succ_cons, List.drop_succ_cons, List.cons_append]
          rw [← e1]
        · simp only [List.take_succ_cons, List.mem_cons, not_or]
          exact ⟨fun e => hx e.symm, e2⟩

theorem split_spl : ∀ (n : Nat) (s : List UInt8), s.length ≤ n → Lib.splitK [47] 0 (Lib.count s [47]) s = spl s
  | 0, s, h => by
    have : s = [] := List.eq_nil_of_length_eq_zero (by omega)
    subst this; decide
  | n + 1, s, h => by
    by_cases hm : Lib.index s [47] = -1
    · rw [Lib.count_miss hm, spl_none s (byte_none s 47 (by rw [← Lib.index_one]; exact hm))]; rfl
    · obtain ⟨i, hi⟩ : ∃ i : Nat, Lib.index s [47] = i := by
        have := Lib.index_ge s [47]
        exact ⟨(Lib.index s [47]).toNat, by omega⟩
      obtain ⟨e1, e2⟩ := byte_some s 47 i (by rw [← Lib.index_one]; exact hi)
      have hlt : i < s.length := by
        have := congrArg List.length e1
        simp at this; omega
      rw [Lib.count_hit (by simp) hi, Nat.add_comm 1, Lib.splitK]
      have hb : (Lib.index s [47] == -1) = false := by simp [hm]
      rw [hb, hi]
      simp only [Bool.false_eq_true, if_false, Int.toNat_natCast, Nat.add_zero, List.length_singleton]
      rw [split_spl n (s.drop (i + 1)) (by simp; omega)]
      have h2 := spl_hit (s.take i) (s.drop (i + 1)) e2
      rw [← e1] at h2
      exact h2.symm

theorem count_spl (s : List UInt8) : Lib.count s [47] + 1 = (spl s).length := by
  have key : ∀ (n : Nat) (s : List UInt8), s.length ≤ n → Lib.count s [47] + 1 = (spl s).length := by
    intro n
    induction n with
    | zero => intro s h; have : s = [] := List.eq_nil_of_length_eq_zero (by omega); subst this; decide
    | succ n ih =>
      intro s h
      by_cases hm : Lib.index s [47] = -1
      · rw [Lib.count_miss hm, spl_none s (byte_none s 47 (by rw [← Lib.index_one]; exact hm))]; rfl
      · obtain ⟨i, hi⟩ : ∃ i : Nat, Lib.index s [47] = i := by
          have := Lib.index_ge s [47]
          exact ⟨(Lib.index s [47]).toNat, by omega⟩
        obtain ⟨e1, e2⟩ := byte_some s 47 i (by rw [← Lib.index_one]; exact hi)
        have hlt : i < s.length := by
          have := congrArg List.length e1
          simp at this; omega
        have h3 := ih (s.drop (i + 1)) (by simp; omega)
        rw [Lib.count_hit (by simp) hi]
        have h2 := spl_hit (s.take i) (s.drop (i + 1)) e2
        rw [← e1] at h2
        rw [h2]
        show 1 + Lib.count (s.drop (i + 1)) [47] + 1 = (spl (s.drop (i + 1))).length + 1
        omega
  exact key _ s (Nat.le_refl _)
end Go.Proofs.Qxb6601701aDoor
