import Derived.Test.Qxb6601590aDoorW1
namespace Go.Proofs.Qxb6601590aDoor
open Go.RowKit

def digs (l : List UInt8) : Bool := !l.isEmpty && l.all isDig

theorem bytesRow_get (s : ByteArray) (cap i : Nat) (hi : i < s.size) : (bytesRow s cap)[i]? = some (.int .u8 (s[i]).toNat) := by
  unfold bytesRow
  rw [Array.getElem?_append_left (by simpa using hi), Array.getElem?_map, Array.getElem?_eq_getElem hi]
  rfl

theorem take_snoc (s : ByteArray) (k : Nat) (h : k < s.size) : s.data.toList.take (k + 1) = s.data.toList.take k ++ [s[k]] := by
  rw [List.take_succ_eq_append_getElem (by simpa using h)]; rfl

theorem conv_bytes (s : ByteArray) (w : World) : ∃ O cap, (convert 9 26 (.string s)).run Tryd.prog w = .ok (.slice (some ⟨w.heap.size, 0, none⟩) s.size cap) (w.drew.alloc O) ∧
    ∀ i (hi : i < s.size), (w.alloc O).cell? ⟨w.heap.size, i, none⟩ = some (.int .u8 (s[i]).toNat) := by
  have hconv := run_bytes_of_string w 9 26 5 s Tryd.underlying9 Tryd.underlying26 Tryd.underlying5
  refine ⟨_, _, hconv, fun i hi => ?_⟩
  generalize grownCap w s.size 0 5 = cap
  have hh : (w.alloc (.cells (bytesRow s cap) 5 ((bytesRow s cap).size, (bytesRow s cap).size + 1))).heap[w.heap.size]? = some (.cells (bytesRow s cap) 5 ((bytesRow s cap).size, (bytesRow s cap).size + 1)) := by
    show (w.heap.push _)[w.heap.size]? = _
    simp
  simp only [World.cell?]
  rw [hh]
  exact bytesRow_get s cap i hi

theorem digs_nil (s : ByteArray) (h : s.size = 0) : digs s.data.toList = false := by
  have : s.data.toList = [] := List.eq_nil_of_length_eq_zero (by simpa using h)
  rw [this]; rfl

theorem empty_of_size (s : ByteArray) : s.toList.isEmpty = decide (s.size = 0) := by
  rw [ByteArray.toList_eq, ByteArray.size]
  cases h : s.data with
  | mk l => cases l <;> simp

theorem isDig_false {c : UInt8} (h : (c.toNat : Int) < 48 ∨ 57 < (c.toNat : Int)) : isDig c = false := by
  unfold isDig; simp; omega

theorem isDig_true {c : UInt8} (h : 48 ≤ (c.toNat : Int) ∧ (c.toNat : Int) ≤ 57) : isDig c = true := by
  unfold isDig; simp; omega

theorem digs_bad (s : ByteArray) (k : Nat) (hk : k < s.size) (h : isDig s[k] = false) : digs s.data.toList = false := by
  unfold digs
  rw [Bool.and_eq_false_iff]
  right
  rw [List.all_eq_false]
  exact ⟨s[k], Array.mem_toList_iff.2 (Array.getElem_mem (xs := s.data) hk), by simp [h]⟩

theorem digs_good (s : ByteArray) (h0 : s.size ≠ 0) (h : ((s.data.toList.take s.size).all isDig) = true) : digs s.data.toList = true := by
  unfold digs
  rw [show s.data.toList.take s.size = s.data.toList from List.take_of_length_le (Nat.le_of_eq rfl)] at h
  rw [h, Bool.and_true]
  cases e : s.data.toList with
  | nil => exact absurd (congrArg List.length e) h0
  | cons => rfl

theorem all_snoc (s : ByteArray) (k : Nat) (hk : k < s.size) (h : ((s.data.toList.take k).all isDig) = true) (hd : isDig s[k] = true) : ((s.data.toList.take (k + 1)).all isDig) = true := by
  rw [take_snoc s k hk, List.all_append, h]; simp [hd]

set_option maxHeartbeats 400000 in
set_option maxRecDepth 100000 in
theorem digitsOnly_any (s : ByteArray) (w : World) (hs : s.size ≤ 9223372036854775807) :
    Calls Tryd.prog 22 #[.string s] w fun e w' => e = .returned (.bool (digs s.data.toList)) ∧ Below w.heap.size w w' := by
  obtain ⟨O, cap, hconv, hC⟩ := conv_bytes s w
  have HC : Hid (∀ i (hi : i < s.size), (w.alloc O).cell? ⟨w.heap.size, i, none⟩ = some (.int .u8 (s[i]).toNat)) := hC
  clear hC
  by_cases hz : s.size = 0
  · have hnm : s.toList.isEmpty = true := by rw [empty_of_size]; simpa using hz
    have HF : Hid _ := digs_nil s hz
    clear hz
    go_enter Tryd.func22, Tryd.ntmps22
    go_wp2
    go_ret
    exact ⟨ret_bool HF.out.symm, Below.refl _ _⟩
  · have hnm : s.toList.isEmpty = false := by rw [empty_of_size]; simpa using hz
    have Hz : Hid (s.size ≠ 0) := hz
    clear hz
    go_enter Tryd.func22, Tryd.ntmps22
    go_wp2
    go_loop [10] (fun i => ∃ k : Nat, k ≤ s.size ∧ i = .int .i64 k ∧ ((s.data.toList.take k).all isDig) = true) (fun i => s.size - (intOf i).toNat)
    case atStart => exact ⟨0, Nat.zero_le _, rfl, rfl⟩
    case round =>
      obtain ⟨k, hk, rfl, hall⟩ := hrel
      have HA : Hid (((s.data.toList.take k).all isDig) = true) := hall
      clear hall
      by_cases hlt : k < s.size
      · have hc := HC.out k hlt
        by_cases hd : 48 ≤ (s[k].toNat : Int) ∧ (s[k].toNat : Int) ≤ 57
        · have HD := isDig_true hd
          obtain ⟨hd1, hd2⟩ := hd
          go_wp2
          go_round
          case rel => exact ⟨k + 1, by omega, by go_num, all_snoc s k hlt HA.out HD⟩
          case measure => simp [intOf]; omega
        · have HF : Hid _ := digs_bad s k hlt (isDig_false (by omega))
          go_wp2
          all_goals (go_ret; exact ⟨ret_bool HF.out.symm, ((Below.refl _ _).alloc (Nat.le_refl _) _).drew⟩)
      · obtain rfl : k = s.size := by omega
        have HF : Hid _ := digs_good s Hz.out HA.out
        go_wp2
        go_ret
        exact ⟨ret_bool HF.out.symm, ((Below.refl _ _).alloc (Nat.le_refl _) _).drew⟩
end Go.Proofs.Qxb6601590aDoor
