import Derived.Test.Qxb6601974aDoorW5
namespace Go.Proofs.Qxb6601974aDoor
open Go.RowKit

def tl (sep : List UInt8) : List (List UInt8) → List UInt8
  | [] => []
  | x :: xs => sep ++ (x ++ tl sep xs)
def gl (sep : List UInt8) : List (List UInt8) → List UInt8
  | [] => []
  | x :: xs => x ++ tl sep xs

theorem gl_flat (S : List (List UInt8)) : gl [] S = S.flatten := by
  have h : ∀ S : List (List UInt8), tl [] S = S.flatten := by
    intro S
    induction S with
    | nil => rfl
    | cons x xs ih => simp [tl, ih]
  cases S with
  | nil => rfl
  | cons x xs => simp [gl, h]

theorem split_miss {t sep : List UInt8} (h : Lib.index t sep = -1) : Lib.split t sep = [t] := by
  unfold Lib.split
  rw [Lib.count_miss h]
  rfl
theorem split_hit {t sep : List UInt8} {i : Nat} (h1 : sep ≠ []) (h : Lib.index t sep = i) : Lib.split t sep = t.take i :: Lib.split (t.drop (i + sep.length)) sep := by
  unfold Lib.split
  rw [Lib.count_hit h1 h, Nat.add_comm 1]
  conv => lhs; unfold Lib.splitK
  rw [h, if_neg (by simp)]
  simp

theorem split_ne (sep : List UInt8) (hs : sep ≠ []) (t : List UInt8) : Lib.split t sep ≠ [] := by
  rcases index_cases t sep with ⟨hi, _⟩ | ⟨i, hi, _⟩
  · rw [split_miss hi]; simp
  · rw [split_hit hs hi]; simp

theorem tl_of_ne (sep : List UInt8) (S : List (List UInt8)) (h : S ≠ []) : tl sep S = sep ++ gl sep S := by
  cases S with
  | nil => exact absurd rfl h
  | cons x xs => rfl

theorem gl_split (sep : List UInt8) (hs : sep ≠ []) : ∀ (n : Nat) (t : List UInt8), t.length ≤ n → gl sep (Lib.split t sep) = t
  | n, t, hn => by
    rcases index_cases t sep with ⟨hi, _⟩ | ⟨i, hi, hil, hocc, _⟩
    · rw [split_miss hi]; simp [gl, tl]
    · rw [split_hit hs hi]
      have hsl : 1 ≤ sep.length := by cases sep <;> simp_all
      have hroom : i + sep.length ≤ t.length := by
        rcases Lib.occAt_room hocc with h | h
        · exact h
        · exact absurd h hs
      have hcut : t = t.take i ++ (sep ++ t.drop (i + sep.length)) := by
        unfold Lib.occAt at hocc
        obtain ⟨r, hr⟩ := List.isPrefixOf_iff_prefix.1 hocc
        have : t.drop (i + sep.length) = r := by rw [← List.drop_drop, ← hr]; simp
        rw [this, hr, List.take_append_drop]
      cases n with
      | zero => omega
      | succ n =>
        have ih := gl_split sep hs n (t.drop (i + sep.length)) (by rw [List.length_drop]; omega)
        show t.take i ++ tl sep _ = t
        rw [tl_of_ne sep _ (split_ne sep hs _), ih]
        exact hcut.symm

theorem width_room (s : ByteArray) (pos : Nat) (h : pos < s.size) : 1 ≤ (Utf8.decode s pos).2 ∧ pos + (Utf8.decode s pos).2 ≤ s.size := by
  refine ⟨Lib.decode_width_pos s pos h, ?_⟩
  rw [Lib.decode_at]
  unfold Lib.decodeN
  repeat' split
  all_goals simp only
  all_goals omega

def chunk (s : ByteArray) : Nat → Nat → List (List UInt8)
  | 0, _ => []
  | f + 1, pos => if pos < s.size then (s.data.toList.drop pos).take (Utf8.decode s pos).2 :: chunk s f (pos + (Utf8.decode s pos).2) else []
def chunks (s : ByteArray) : List (List UInt8) := chunk s s.size 0

theorem chunk_len (s : ByteArray) : ∀ f pos, (chunk s f pos).length = Lib.runeCountFrom s f pos
  | 0, _ => rfl
  | f + 1, pos => by
    unfold chunk Lib.runeCountFrom
    split
    · rw [List.length_cons, chunk_len s f]; omega
    · rfl

theorem chunk_flat (s : ByteArray) : ∀ f pos, s.size - pos ≤ f → (chunk s f pos).flatten = s.data.toList.drop pos
  | 0, pos, h => by
    rw [List.drop_eq_nil_of_le (by show s.size ≤ pos; omega)]; rfl
  | f + 1, pos, h => by
    unfold chunk
    split
    · rename_i hp
      have hw := width_room s pos hp
      rw [List.flatten_cons, chunk_flat s f _ (by omega), ← List.drop_drop, List.take_append_drop]
    · rw [List.drop_eq_nil_of_le (by show s.size ≤ pos; omega)]; rfl

theorem chunk_cons (s : ByteArray) (f pos : Nat) (h : chunk s f pos ≠ []) : ∃ f', f = f' + 1 ∧ pos < s.size ∧ chunk s f pos = (s.data.toList.drop pos).take (Utf8.decode s pos).2 :: chunk s f' (pos + (Utf8.decode s pos).2) := by
  cases f with
  | zero => exact absurd rfl h
  | succ f =>
    by_cases hp : pos < s.size
    · refine ⟨f, rfl, hp, ?_⟩
      conv => lhs; unfold chunk
      rw [if_pos hp]
    · exfalso; apply h; unfold chunk; rw [if_neg hp]

/-- the pieces of strings.Split -/
def pcs (s sep : ByteArray) : List (List UInt8) := if sep.size = 0 then chunks s else Lib.split s.data.toList sep.data.toList

theorem gl_pcs (s sep : ByteArray) : gl sep.data.toList (pcs s sep) = s.data.toList := by
  unfold pcs
  split
  · rename_i h
    rw [show sep.data.toList = [] from List.eq_nil_of_length_eq_zero h, gl_flat]
    unfold chunks
    rw [chunk_flat s _ _ (by omega)]; rfl
  · rename_i h
    refine gl_split _ (fun e => h ?_) _ _ (Nat.le_refl _)
    have := congrArg List.length e
    exact this

/-- where piece k begins -/
def st (S : List (List UInt8)) (m k : Nat) : Nat := lens (S.take k) + k * m

theorem st_zero (S : List (List UInt8)) (m : Nat) : st S m 0 = 0 := by simp [st, lens]
theorem st_succ (S : List (List UInt8)) (m k : Nat) (h : k < S.length) : st S m (k + 1) = st S m k + (S.getD k []).length + m := by
  unfold st
  rw [lens_succ S k h, Nat.succ_mul]; omega

theorem gl_st (sep : List UInt8) (S : List (List UInt8)) (t : List UInt8) (h : gl sep S = t) : ∀ k, k < S.length → st S sep.length k + (S.getD k []).length ≤ t.length ∧ t.drop (st S sep.length k) = gl sep (S.drop k)
  | 0, hk => by
    rw [st_zero]
    cases S with
    | nil => simp at hk
    | cons x xs =>
      subst h
      simp [gl]
  | k + 1, hk => by
    obtain ⟨h1, h2⟩ := gl_st sep S t h k (by omega)
    rw [st_succ S _ k (by omega)]
    rw [List.drop_eq_getElem_cons (by omega : k < S.length)] at h2
    have h3 : t.drop (st S sep.length k + (S.getD k []).length + sep.length) = gl sep (S.drop (k + 1)) := by
      rw [← List.drop_drop, ← List.drop_drop, h2]
      show List.drop _ (List.drop _ (S[k] ++ tl sep (S.drop (k + 1)))) = _
      rw [show (S.getD k []).length = S[k].length from by simp [(by omega : k < S.length)]]
      rw [List.drop_left, tl_of_ne sep _ (by rw [ne_eq, List.drop_eq_nil_iff]; omega), List.drop_left]
    refine ⟨?_, h3⟩
    have h4 := congrArg List.length h3
    have h5 := congrArg List.length h2
    rw [List.length_drop] at h4 h5
    rw [List.drop_eq_getElem_cons hk] at h4
    simp only [gl, List.length_append] at h4 h5
    rw [tl_of_ne sep _ (by rw [ne_eq, List.drop_eq_nil_iff]; omega)] at h5
    rw [show (S.getD (k + 1) []).length = S[k + 1].length from by simp [hk]]
    rw [show (S.getD k []).length = S[k].length from by simp [(by omega : k < S.length)]] at *
    rw [List.drop_eq_getElem_cons hk] at h5
    simp only [gl, List.length_append] at h5
    omega
end Go.Proofs.Qxb6601974aDoor
