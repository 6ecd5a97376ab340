import Derived.Test.Qxb6602401aDoorW1
import Derived.Lib.Bytealg
import Derived.Lib.RuneCountTail
import Derived.Lib.Index
namespace Go.Proofs.Qxb6602401aDoor
open Go.RowKit

def CH : List UInt8 := [44, 58, 93, 125, 32, 9, 10, 13]
theorem ch_mem (c : UInt8) : c ∈ CH ↔ isDl c = true := by
  simp [CH, isDl, isSp, or_assoc]

theorem ib_mem (l : List UInt8) (c : UInt8) : 0 ≤ Lib.indexByte l c ↔ c ∈ l := by
  induction l with
  | nil => simp [Lib.indexByte]
  | cons b l ih =>
    have hge := Lib.indexByte_ge l c
    unfold Lib.indexByte
    by_cases h : b == c
    · rw [if_pos h]
      have : b = c := beq_iff_eq.1 h
      simp [this]
    · rw [if_neg h]
      have hne : c ≠ b := fun e => h (by rw [e]; exact beq_self_eq_true b)
      by_cases h2 : Lib.indexByte l c == -1
      · rw [if_pos h2]
        have h3 := beq_iff_eq.1 h2
        rw [h3] at ih
        simp at ih
        simp [hne, ih]
      · rw [if_neg h2]
        have h3 : Lib.indexByte l c ≠ -1 := fun e => h2 (by rw [e]; rfl)
        have h4 := ih.1 (by omega)
        simp [h4]
        omega

def ixd : List UInt8 → Nat
  | [] => 0
  | c :: r => if isDl c then 0 else ixd r + 1

theorem ixd_hit : ∀ (l : List UInt8) (i : Nat), i < l.length → isDl (l.getD i 0) = true → (∀ j, j < i → isDl (l.getD j 0) = false) → ixd l = i
  | [], i, h, _, _ => by simp at h
  | c :: r, 0, _, h, _ => by
    simp at h
    simp [ixd, h]
  | c :: r, i + 1, hl, h, hn => by
    have h0 := hn 0 (by omega)
    simp at h0
    have ih := ixd_hit r i (by simpa using hl) (by simpa using h) (fun j hj => by simpa using hn (j + 1) (by omega))
    simp [ixd, h0, ih]

theorem ixd_none : ∀ (l : List UInt8), (∀ j, j < l.length → isDl (l.getD j 0) = false) → ixd l = l.length
  | [], _ => rfl
  | c :: r, hn => by
    have h0 := hn 0 (by simp)
    simp at h0
    have ih := ixd_none r (fun j hj => by simpa using hn (j + 1) (by simpa using hj))
    simp [ixd, h0, ih]

theorem ixd_le : ∀ (l : List UInt8), ixd l ≤ l.length
  | [] => Nat.le_refl _
  | c :: r => by
    have := ixd_le r
    unfold ixd
    split
    · simp
    · simp; omega

def fz (l : List UInt8) : Int := if ixd l < l.length then (ixd l : Int) else -1
theorem fz_hit (l : List UInt8) (i : Nat) (hi : i < l.length) (h : isDl (l.getD i 0) = true) (hn : ∀ j, j < i → isDl (l.getD j 0) = false) : fz l = i := by
  unfold fz; rw [ixd_hit l i hi h hn, if_pos hi]
theorem fz_none (l : List UInt8) (hn : ∀ j, j < l.length → isDl (l.getD j 0) = false) : fz l = -1 := by
  unfold fz; rw [ixd_none l hn, if_neg (by omega)]

theorem dl_high (c : UInt8) (h : 128 ≤ c.toNat) : isDl c = false := by
  cases e : isDl c with
  | false => rfl
  | true =>
    exfalso
    have := (ch_mem c).2 e
    simp [CH] at this
    rcases this with rfl | rfl | rfl | rfl | rfl | rfl | rfl | rfl <;> simp at h

theorem getx (s : ByteArray) (i : Nat) : s.data.toList.getD i 0 = s.get! i := Lib.getD_get!' s i

/-- what the decoder reads at a byte from 128 on: the rune is from 128 on, the width at most what is left, and its bytes are from 128 on -/
theorem dec_high (s : ByteArray) (h0 : 0 < s.size) (h1 : 128 ≤ (s.get! 0).toNat) :
    128 ≤ (Utf8.decode s 0).1 ∧ 1 ≤ (Utf8.decode s 0).2 ∧ (Utf8.decode s 0).2 ≤ s.size ∧ (Utf8.decode s 0).2 ≤ 4 ∧ (∀ j, j < (Utf8.decode s 0).2 → 128 ≤ (s.get! j).toNat) ∧
    ((Utf8.decode s 0).1 ≠ 65533 → Utf8.valid (Utf8.decode s 0).1 = true ∧ (((Utf8.decode s 0).1 < 2048 ∧ (Utf8.decode s 0).2 = 2) ∨ (2048 ≤ (Utf8.decode s 0).1 ∧ (Utf8.decode s 0).1 < 65536 ∧ (Utf8.decode s 0).2 = 3) ∨ (65536 ≤ (Utf8.decode s 0).1 ∧ (Utf8.decode s 0).2 = 4))) := by
  rw [Lib.decode_at, Nat.sub_zero, Nat.zero_add, Nat.zero_add, Nat.zero_add]
  have b1 := (s.get! 1).toNat_lt
  have b2 := (s.get! 2).toNat_lt
  have b3 := (s.get! 3).toNat_lt
  have b0 := (s.get! 0).toNat_lt
  have key : ∀ w, w ≤ 4 → (2 ≤ w → 128 ≤ (s.get! 1).toNat) → (3 ≤ w → 128 ≤ (s.get! 2).toNat) → (4 ≤ w → 128 ≤ (s.get! 3).toNat) → ∀ j, j < w → 128 ≤ (s.get! j).toNat := by
    intro w hw g1 g2 g3 j hj
    rcases (by omega : j = 0 ∨ j = 1 ∨ j = 2 ∨ j = 3) with rfl | rfl | rfl | rfl
    · exact h1
    · exact g1 (by omega)
    · exact g2 (by omega)
    · exact g3 (by omega)
  unfold Lib.decodeN
  rw [if_neg (by omega)]
  repeat' split
  all_goals refine ⟨?_, ?_, ?_, ?_, key _ ?_ ?_ ?_ ?_, ?_⟩
  all_goals dsimp only
  all_goals try omega
  all_goals (
    intro hh
    refine ⟨?_, by omega⟩
    unfold Utf8.valid
    rw [Bool.or_eq_true, Bool.and_eq_true, Bool.and_eq_true, decide_eq_true_eq, decide_eq_true_eq, decide_eq_true_eq, decide_eq_true_eq]
    omega)

theorem valid_le (r : Nat) (hv : Utf8.valid r = true) : r ≤ 1114111 := by
  unfold Utf8.valid at hv
  rw [Bool.or_eq_true, Bool.and_eq_true, Bool.and_eq_true, decide_eq_true_eq, decide_eq_true_eq, decide_eq_true_eq, decide_eq_true_eq] at hv
  omega

theorem enc_two (r : Nat) (hv : Utf8.valid r = true) (h : 128 ≤ r) (h1 : r < 2048) : Utf8.encode r = ⟨#[UInt8.ofNat (192 + r / 64), UInt8.ofNat (128 + r % 64)]⟩ := by
  have h0 : ¬ r < 128 := by omega
  simp only [Utf8.encode, hv, if_true, Int.toNat_natCast, h0, if_false, h1]
theorem enc_three (r : Nat) (hv : Utf8.valid r = true) (h1 : ¬ r < 2048) (h2 : r < 65536) : Utf8.encode r = ⟨#[UInt8.ofNat (224 + r / 4096), UInt8.ofNat (128 + r / 64 % 64), UInt8.ofNat (128 + r % 64)]⟩ := by
  have h0 : ¬ r < 128 := by omega
  simp only [Utf8.encode, hv, if_true, Int.toNat_natCast, h0, if_false, h1, h2]
theorem enc_four (r : Nat) (hv : Utf8.valid r = true) (h2 : ¬ r < 65536) : Utf8.encode r = ⟨#[UInt8.ofNat (240 + r / 262144), UInt8.ofNat (128 + r / 4096 % 64), UInt8.ofNat (128 + r / 64 % 64), UInt8.ofNat (128 + r % 64)]⟩ := by
  have h0 : ¬ r < 128 := by omega
  have h1 : ¬ r < 2048 := by omega
  simp only [Utf8.encode, hv, if_true, Int.toNat_natCast, h0, if_false, h1, h2]
theorem u8_high (n : Nat) (h1 : 128 ≤ n) (h2 : n < 256) : 128 ≤ (UInt8.ofNat n).toNat := by
  rw [UInt8.toNat_ofNat', Nat.mod_eq_of_lt h2]; exact h1

theorem enc_facts (r : Nat) (hv : Utf8.valid r = true) (h : 128 ≤ r) : ∃ c t, (Utf8.encode r).data.toList = c :: t ∧ 128 ≤ c.toNat ∧ (Utf8.encode r).size = (if r < 2048 then 2 else if r < 65536 then 3 else 4) := by
  have hr := valid_le r hv
  by_cases h1 : r < 2048
  · rw [enc_two r hv h h1, if_pos h1]
    exact ⟨_, _, rfl, u8_high _ (by omega) (by omega), rfl⟩
  · rw [if_neg h1]
    by_cases h2 : r < 65536
    · rw [enc_three r hv h1 h2, if_pos h2]
      exact ⟨_, _, rfl, u8_high _ (by omega) (by omega), rfl⟩
    · rw [enc_four r hv h2, if_neg h2]
      exact ⟨_, _, rfl, u8_high _ (by omega) (by omega), rfl⟩

theorem enc_index (r : Nat) (hv : Utf8.valid r = true) (h : 128 ≤ r) : Lib.index CH (Utf8.encode r).data.toList = -1 := by
  obtain ⟨c, t, e, hc, _⟩ := enc_facts r hv h
  rw [e]
  refine Lib.index_none (fun j _ => ?_)
  cases ho : Lib.occAt CH (c :: t) j with
  | false => rfl
  | true =>
    exfalso
    have h1 := Lib.occAt_head rfl ho
    have h2 : c ∈ CH := List.mem_of_getElem? h1
    have h3 := (ch_mem c).1 h2
    rw [dl_high c hc] at h3
    cases h3
end Go.Proofs.Qxb6602401aDoor
