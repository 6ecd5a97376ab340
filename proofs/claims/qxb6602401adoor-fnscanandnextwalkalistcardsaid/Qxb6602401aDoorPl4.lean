import Derived.Test.Qxb6602401aDoorW6
namespace Go.Proofs.Qxb6602401aDoor
open Go.RowKit

def nxt (s : Nat) (c : UInt8) : Nat := if s = 0 then (if c = 34 then 1 else 0) else if s = 2 then 1 else if c = 92 then 2 else if c = 34 then 0 else 1
/-- the automaton's state ahead of byte k -/
def stt (l : List UInt8) : Nat → Nat
  | 0 => 0
  | k + 1 => nxt (stt l k) (l.getD k 0)
def rl (s : Nat) (c : UInt8) : Nat := if s = 0 then (if c = 34 then 1 else 0) else if s = 2 then 2 else if c = 92 then 2 else if c = 34 then 3 else 2
/-- byte k's role -/
def rol (l : List UInt8) (k : Nat) : Nat := rl (stt l k) (l.getD k 0)
def stp (r : Nat) (c : UInt8) : Int := if r = 0 then (if isOp c then 1 else if isCl c then -1 else 0) else 0
/-- the balance ahead of byte k -/
def bal (l : List UInt8) : Nat → Int
  | 0 => 0
  | k + 1 => bal l k + stp (rol l k) (l.getD k 0)
/-- the highest balance up to k -/
def pk (l : List UInt8) : Nat → Int
  | 0 => 0
  | k + 1 => max (pk l k) (bal l (k + 1))
def dec (l : List UInt8) (k : Nat) : Bool :=
  (rol l k == 1 && bal l k == 0) || (rol l k == 0 && isCl (l.getD k 0) && bal l (k + 1) == 0) || (rol l k == 0 && bal l k == 0 && !isSp (l.getD k 0) && !isOp (l.getD k 0) && !isCl (l.getD k 0))

theorem stt_le (l : List UInt8) : ∀ k, stt l k ≤ 2
  | 0 => by simp [stt]
  | k + 1 => by
    show nxt _ _ ≤ 2
    unfold nxt
    repeat' split
    all_goals omega
theorem stp_bd (r : Nat) (c : UInt8) : -1 ≤ stp r c ∧ stp r c ≤ 1 := by
  unfold stp
  repeat' split
  all_goals omega
theorem bal_bd (l : List UInt8) : ∀ k : Nat, -(k : Int) ≤ bal l k ∧ bal l k ≤ k
  | 0 => by simp [bal]
  | k + 1 => by
    have h1 := bal_bd l k
    have h2 := stp_bd (rol l k) (l.getD k 0)
    show -((k + 1 : Nat) : Int) ≤ bal l k + stp _ _ ∧ bal l k + stp _ _ ≤ ((k + 1 : Nat) : Int)
    omega
theorem pk_ge (l : List UInt8) : ∀ k : Nat, bal l k ≤ pk l k ∧ 0 ≤ pk l k ∧ pk l k ≤ k
  | 0 => by simp [bal, pk]
  | k + 1 => by
    have h1 := pk_ge l k
    have h2 := bal_bd l (k + 1)
    show bal l (k + 1) ≤ max (pk l k) (bal l (k + 1)) ∧ 0 ≤ max (pk l k) (bal l (k + 1)) ∧ max (pk l k) (bal l (k + 1)) ≤ ((k + 1 : Nat) : Int)
    omega

theorem op_cl (c : UInt8) (h : isOp c = true) : isCl c = false ∧ c ≠ 34 := by
  unfold isOp at h
  rw [Bool.or_eq_true, beq_iff_eq, beq_iff_eq] at h
  rcases h with rfl | rfl <;> decide
theorem cl_ne (c : UInt8) (h : isCl c = true) : isOp c = false ∧ c ≠ 34 := by
  unfold isCl at h
  rw [Bool.or_eq_true, beq_iff_eq, beq_iff_eq] at h
  rcases h with rfl | rfl <;> decide

theorem traj (l : List UInt8) : ∀ k, k ≤ l.length → (∀ j, j < k → dec l j = false) → auto l 0 0 0 0 = auto (l.drop k) k (stt l k) (bal l k) (pk l k) ∧ (stt l k ≠ 0 → bal l k ≠ 0)
  | 0, _, _ => ⟨rfl, fun h => absurd rfl h⟩
  | k + 1, hk, hd => by
    obtain ⟨h1, h2⟩ := traj l k (by omega) (fun j hj => hd j (by omega))
    have hdk := hd k (by omega)
    have hp := pk_ge l k
    rw [drop_at l k (by omega), auto_cons] at h1
    have es : stt l (k + 1) = nxt (stt l k) (l.getD k 0) := rfl
    have eb : bal l (k + 1) = bal l k + stp (rol l k) (l.getD k 0) := rfl
    have ep : pk l (k + 1) = max (pk l k) (bal l (k + 1)) := rfl
    have er : rol l k = rl (stt l k) (l.getD k 0) := rfl
    unfold dec at hdk
    rw [es, ep, eb]
    rw [eb] at hdk
    rw [er] at hdk ⊢
    generalize l.getD k 0 = c at *
    generalize stt l k = s at *
    generalize bal l k = b at *
    generalize pk l k = p at *
    by_cases hs : s = 0
    · subst hs
      rw [if_pos rfl] at h1
      by_cases h34 : c = 34
      · subst h34
        have hb : b ≠ 0 := by intro e; subst e; simp [rl] at hdk
        rw [if_pos rfl] at h1
        simp only [nxt, rl, stp, if_true]
        refine ⟨?_, fun _ => by simpa using hb⟩
        rw [h1]
        simp
        congr 1
        omega
      · rw [if_neg h34] at h1
        have e1 : rl 0 c = 0 := by simp [rl, h34]
        have e2 : nxt 0 c = 0 := by simp [nxt, h34]
        rw [e1] at hdk ⊢
        rw [e2]
        refine ⟨?_, fun h => absurd rfl h⟩
        cases hop : isOp c
        · rw [hop, if_neg (by simp)] at h1
          cases hcl : isCl c
          · rw [hcl, if_neg (by simp)] at h1
            have e3 : stp 0 c = 0 := by simp [stp, hop, hcl]
            rw [if_neg (fun h => by obtain ⟨q1, q2⟩ := h; subst q1; simp [hop, hcl, q2] at hdk)] at h1
            rw [h1, e3, Int.add_zero]
            congr 1
            omega
          · rw [hcl, if_pos rfl] at h1
            have e3 : stp 0 c = -1 := by simp [stp, hop, hcl]
            rw [e3] at hdk ⊢
            rw [if_neg (fun h => by simp [hcl, show b + -1 = 0 from by omega] at hdk)] at h1
            rw [h1, show b - 1 = b + -1 from by omega]
            congr 1
            omega
        · rw [hop, if_pos rfl] at h1
          have e3 : stp 0 c = 1 := by simp [stp, hop]
          rw [h1, e3]
    · have hb := h2 hs
      have e3 : ∀ r, r ≠ 0 → stp r c = 0 := fun r hr => by simp [stp, hr]
      have er0 : rl s c ≠ 0 := by
        unfold rl
        rw [if_neg hs]
        repeat' split
        all_goals omega
      rw [if_neg hs] at h1
      rw [e3 _ er0, Int.add_zero, show max p b = p from by omega]
      refine ⟨?_, fun _ => hb⟩
      rw [h1]
      unfold nxt
      rw [if_neg hs, if_neg hb]
      repeat' split
      all_goals rfl

/-- inside the string that decides: the automaton's place of the closing quote, from byte j on -/
def InQ (l : List UInt8) (q j : Nat) : Prop := stt l j ≠ 0 ∧ q = cqa (l.drop j) j (decide (stt l j = 2))

theorem inq_start (l : List UInt8) (k : Nat) (h : rol l k = 1) : InQ l (cqa (l.drop (k + 1)) (k + 1) false) (k + 1) := by
  have hs : stt l k = 0 ∧ l.getD k 0 = 34 := by
    unfold rol rl at h
    repeat' split at h
    all_goals first | (constructor <;> assumption) | omega
  have e : stt l (k + 1) = 1 := by
    show nxt _ _ = 1
    rw [hs.1, hs.2]; rfl
  refine ⟨by rw [e]; omega, ?_⟩
  rw [e]
  rfl

theorem inq_step (l : List UInt8) (q j : Nat) (hj : j < l.length) (h : InQ l q j) : (rol l j = 3 → q = j) ∧ (rol l j ≠ 3 → InQ l q (j + 1)) := by
  obtain ⟨h1, h2⟩ := h
  rw [drop_at l j hj, cqa_cons] at h2
  have hle := stt_le l j
  have es : stt l (j + 1) = nxt (stt l j) (l.getD j 0) := rfl
  have er : rol l j = rl (stt l j) (l.getD j 0) := rfl
  unfold InQ
  rw [es, er]
  generalize l.getD j 0 = c at *
  rcases (by omega : stt l j = 1 ∨ stt l j = 2) with hs | hs
  · rw [hs] at h2 ⊢
    rw [if_neg (by decide)] at h2
    by_cases h92 : c = 92
    · rw [if_pos h92] at h2
      simp [rl, nxt, h92, h2]
    · rw [if_neg h92] at h2
      by_cases h34 : c = 34
      · rw [if_pos h34] at h2
        simp [rl, h34, h2]
      · rw [if_neg h34] at h2
        simp [rl, nxt, h92, h34, h2]
  · rw [hs] at h2 ⊢
    rw [if_pos (by decide)] at h2
    simp [rl, nxt, h2]

theorem inq_end (l : List UInt8) (q : Nat) (h : InQ l q l.length) : q = l.length := by
  obtain ⟨_, h2⟩ := h
  rw [List.drop_eq_nil_of_le (Nat.le_refl _)] at h2
  exact h2

/-- no byte decides -/
theorem res_none (l : List UInt8) (h : ∀ j, j < l.length → dec l j = false) : auto l 0 0 0 0 = (l.length, pk l l.length) := by
  obtain ⟨h1, h2⟩ := traj l l.length (Nat.le_refl _) h
  rw [h1, List.drop_eq_nil_of_le (Nat.le_refl _), auto_nil]
  by_cases hs : stt l l.length = 0
  · rw [if_pos hs]
  · rw [if_neg hs, if_neg (h2 hs)]

theorem rol_one (l : List UInt8) (k : Nat) (h : rol l k = 1) : stt l k = 0 ∧ l.getD k 0 = 34 := by
  unfold rol rl at h
  repeat' split at h
  all_goals first | (constructor <;> assumption) | omega
theorem rol_zero (l : List UInt8) (k : Nat) (h : rol l k = 0) : stt l k = 0 ∧ l.getD k 0 ≠ 34 := by
  unfold rol rl at h
  repeat' split at h
  all_goals first | (constructor <;> assumption) | omega

/-- a string at balance 0 decides -/
theorem res_str (l : List UInt8) (k : Nat) (hk : k < l.length) (h : ∀ j, j < k → dec l j = false) (h1 : rol l k = 1) (h2 : bal l k = 0) :
    auto l 0 0 0 0 = if cqa (l.drop (k + 1)) (k + 1) false < l.length then (cqa (l.drop (k + 1)) (k + 1) false + 1, 0) else (l.length, 0) := by
  obtain ⟨t1, _⟩ := traj l k (by omega) h
  obtain ⟨hs, h34⟩ := rol_one l k h1
  rw [t1, drop_at l k hk, auto_cons, hs, if_pos rfl, if_pos h34, (auto_str _ _ _ _).1, h2]
  unfold strEnd
  rw [List.length_drop, show k + 1 + (l.length - (k + 1)) = l.length from by omega, if_pos rfl, if_pos rfl]

/-- a closer that brings the balance to 0 decides -/
theorem res_close (l : List UInt8) (k : Nat) (hk : k < l.length) (h : ∀ j, j < k → dec l j = false) (h1 : rol l k = 0) (h2 : isCl (l.getD k 0) = true) (h3 : bal l (k + 1) = 0) : auto l 0 0 0 0 = (k + 1, pk l k) := by
  obtain ⟨t1, _⟩ := traj l k (by omega) h
  obtain ⟨hs, h34⟩ := rol_zero l k h1
  have hop := (cl_ne _ h2).1
  have hb : bal l (k + 1) = bal l k + stp (rol l k) (l.getD k 0) := rfl
  rw [h3, h1] at hb
  unfold stp at hb
  rw [if_pos rfl, hop, if_neg (by simp), h2, if_pos rfl] at hb
  rw [t1, drop_at l k hk, auto_cons, hs, if_pos rfl, if_neg h34, hop, if_neg (by simp), h2, if_pos rfl, if_pos (by omega)]

/-- a bare byte at balance 0 decides -/
theorem res_bare (l : List UInt8) (k : Nat) (hk : k < l.length) (h : ∀ j, j < k → dec l j = false) (h1 : rol l k = 0) (h2 : bal l k = 0) (h3 : isSp (l.getD k 0) = false) (h4 : isOp (l.getD k 0) = false) (h5 : isCl (l.getD k 0) = false) :
    auto l 0 0 0 0 = (k + ixd (l.drop k), 0) := by
  obtain ⟨t1, _⟩ := traj l k (by omega) h
  obtain ⟨hs, h34⟩ := rol_zero l k h1
  rw [t1, drop_at l k hk, auto_cons, hs, if_pos rfl, if_neg h34, h4, if_neg (by simp), h5, if_neg (by simp), if_pos ⟨h2, h3⟩]
end Go.Proofs.Qxb6602401aDoor
