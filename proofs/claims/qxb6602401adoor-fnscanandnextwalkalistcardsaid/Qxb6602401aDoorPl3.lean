import Derived.Test.Qxb6602401aDoorPl2
namespace Go.Proofs.Qxb6602401aDoor
open Go.RowKit

/-- scan, byte by byte: st 0 outside every string, 1 inside, 2 inside behind a backslash; d the depth, m the deepest -/
def auto : List UInt8 → Nat → Nat → Int → Int → Nat × Int
  | [], pos, st, d, m => if st = 0 then (pos, m) else if d = 0 then (pos, 0) else (pos, m)
  | c :: r, pos, st, d, m =>
    if st = 0 then
      if c = 34 then auto r (pos + 1) 1 d m
      else if isOp c then auto r (pos + 1) 0 (d + 1) (max m (d + 1))
      else if isCl c then (if d - 1 = 0 then (pos + 1, m) else auto r (pos + 1) 0 (d - 1) m)
      else if d = 0 ∧ isSp c = false then (pos + ixd (c :: r), 0)
      else auto r (pos + 1) 0 d m
    else if st = 2 then auto r (pos + 1) 1 d m
    else if c = 92 then auto r (pos + 1) 2 d m
    else if c = 34 then (if d = 0 then (pos + 1, 0) else auto r (pos + 1) 0 d m)
    else auto r (pos + 1) 1 d m

theorem auto_nil (pos st : Nat) (d m : Int) : auto [] pos st d m = if st = 0 then (pos, m) else if d = 0 then (pos, 0) else (pos, m) := by rw [auto]
theorem auto_cons (c : UInt8) (r : List UInt8) (pos st : Nat) (d m : Int) : auto (c :: r) pos st d m =
    if st = 0 then
      if c = 34 then auto r (pos + 1) 1 d m
      else if isOp c then auto r (pos + 1) 0 (d + 1) (max m (d + 1))
      else if isCl c then (if d - 1 = 0 then (pos + 1, m) else auto r (pos + 1) 0 (d - 1) m)
      else if d = 0 ∧ isSp c = false then (pos + ixd (c :: r), 0)
      else auto r (pos + 1) 0 d m
    else if st = 2 then auto r (pos + 1) 1 d m
    else if c = 92 then auto r (pos + 1) 2 d m
    else if c = 34 then (if d = 0 then (pos + 1, 0) else auto r (pos + 1) 0 d m)
    else auto r (pos + 1) 1 d m := by rw [auto]

theorem cqa_bd : ∀ (l : List UInt8) (pos : Nat) (esc : Bool), pos ≤ cqa l pos esc ∧ cqa l pos esc ≤ pos + l.length
  | [], pos, _ => ⟨Nat.le_refl _, Nat.le_refl _⟩
  | c :: r, pos, esc => by
    have h1 := cqa_bd r (pos + 1) false
    have h2 := cqa_bd r (pos + 1) true
    rw [cqa_cons, List.length_cons]
    repeat' split
    all_goals omega

/-- what auto answers from inside a string, q the closing quote's place -/
def strEnd (l : List UInt8) (pos q : Nat) (d m : Int) : Nat × Int :=
  if q < pos + l.length then (if d = 0 then (q + 1, 0) else auto (l.drop (q + 1 - pos)) (q + 1) 0 d m) else (if d = 0 then (pos + l.length, 0) else (pos + l.length, m))

theorem strEnd_cons (c : UInt8) (r : List UInt8) (pos q : Nat) (d m : Int) (h : pos + 1 ≤ q) : strEnd (c :: r) pos q d m = strEnd r (pos + 1) q d m := by
  unfold strEnd
  rw [List.length_cons, show pos + (r.length + 1) = pos + 1 + r.length from by omega, show q + 1 - pos = (q + 1 - (pos + 1)) + 1 from by omega, List.drop_succ_cons]

theorem auto_str : ∀ (l : List UInt8) (pos : Nat) (d m : Int), auto l pos 1 d m = strEnd l pos (cqa l pos false) d m ∧ auto l pos 2 d m = strEnd l pos (cqa l pos true) d m
  | [], pos, d, m => by
    have e : ∀ b, cqa [] pos b = pos := fun _ => rfl
    rw [auto_nil, auto_nil, if_neg (by omega : ¬ (1 : Nat) = 0), if_neg (by omega : ¬ (2 : Nat) = 0), e, e]
    unfold strEnd
    simp
  | c :: r, pos, d, m => by
    obtain ⟨ih1, ih2⟩ := auto_str r (pos + 1) d m
    have b1 := cqa_bd r (pos + 1) false
    have b2 := cqa_bd r (pos + 1) true
    constructor
    · rw [auto_cons, if_neg (by omega), if_neg (by omega)]
      by_cases h92 : c = 92
      · have e : cqa (c :: r) pos false = cqa r (pos + 1) true := by rw [cqa_cons, if_neg (by simp), if_pos h92]
        rw [if_pos h92, ih2, e, strEnd_cons c r pos _ d m b2.1]
      · by_cases h34 : c = 34
        · have e : cqa (c :: r) pos false = pos := by rw [cqa_cons, if_neg (by simp), if_neg h92, if_pos h34]
          rw [if_neg h92, if_pos h34, e]
          unfold strEnd
          rw [List.length_cons, if_pos (by omega : pos < pos + (r.length + 1)), show pos + 1 - pos = 0 + 1 from by omega, List.drop_succ_cons]
          rfl
        · have e : cqa (c :: r) pos false = cqa r (pos + 1) false := by rw [cqa_cons, if_neg (by simp), if_neg h92, if_neg h34]
          rw [if_neg h92, if_neg h34, ih1, e, strEnd_cons c r pos _ d m b1.1]
    · have e : cqa (c :: r) pos true = cqa r (pos + 1) false := by rw [cqa_cons, if_pos rfl]
      rw [auto_cons, if_neg (by omega), if_pos rfl, ih1, e, strEnd_cons c r pos _ d m b1.1]
end Go.Proofs.Qxb6602401aDoor
