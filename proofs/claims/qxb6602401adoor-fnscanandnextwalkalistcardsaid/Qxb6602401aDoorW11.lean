import Derived.Test.Qxb6602401aDoorW10
namespace Go.Proofs.Qxb6602401aDoor
open Go.RowKit

theorem ix_str (l : List UInt8) (i : Nat) (h : i < l.length) (w : World) : (Instr.index 9 (.string ⟨l.toArray⟩) (.int .i64 (i : Int))).run Tryd.prog w = .ok (.int .u8 (l.getD i 0).toNat) w := by
  rw [run_index_string _ _ _ _ _ Tryd.underlying9]
  have hs : (⟨l.toArray⟩ : ByteArray).size = l.length := rfl
  have h2 : (0 : Int) ≤ (i : Int) ∧ (i : Int) < ((⟨l.toArray⟩ : ByteArray).size : Int) := ⟨by omega, by omega⟩
  rw [dif_pos h2]
  have e : (⟨l.toArray⟩ : ByteArray)[(i : Int).toNat]'(by omega) = l.getD i 0 := by
    rw [List.getD_eq_getElem?_getD, List.getElem?_eq_getElem h]
    rfl
  rw [e]

/-- P laid from the head of a block of N bytes, zeros behind -/
def LayB (P : List UInt8) (N : Nat) : List Value := Bs P ++ List.replicate (N - P.length) (.int .u8 0)
theorem LayB_nil (N : Nat) : List.replicate N (.int .u8 0) = LayB [] N := by simp [LayB, Bs]
theorem LayB_len (P : List UInt8) (N : Nat) (h : P.length ≤ N) : (LayB P N).length = N := by unfold LayB Bs; simp; omega
theorem LayB_put (P : List UInt8) (N : Nat) (c : UInt8) (h : P.length < N) : (LayB P N).set P.length (bc c) = LayB (P ++ [c]) N := by
  unfold LayB Bs
  rw [List.set_append_right _ _ (by simp), List.length_map, Nat.sub_self, show N - P.length = (N - (P.length + 1)) + 1 from by omega, List.replicate_succ, List.set_cons_zero, List.map_append, List.append_assoc, List.length_append]
  rfl
theorem LayB_all (P : List UInt8) : LayB P P.length = Bs P := by simp [LayB]

set_option maxHeartbeats 1000000 in
set_option maxRecDepth 100000 in
theorem put18 (g N base : Nat) (P x : List UInt8) (w : World) (hv : VBuf g (LayB P N) w) (hb : base ≤ g) (hN : N ≤ 1048576) (hx : P.length + x.length ≤ N) :
    Calls Tryd.prog 18 #[.slice (some ⟨g, 0, none⟩) N N, .int .i64 P.length, .string ⟨x.toArray⟩] w fun e w' => e = .returned (.int .i64 ((P.length + x.length : Nat) : Int)) ∧ VBuf g (LayB (P ++ x) N) w' ∧ Below base w w' := by
  have HV : Hid (VBuf g (LayB P N) w) := hv
  clear hv
  go_enter Tryd.func18, Tryd.ntmps18
  go_wp2_with fail
  go_loopw [7] (fun v7 wr => ∃ k : Nat, k ≤ x.length ∧ v7 = .int .i64 k ∧ Hid (VBuf g (LayB (P ++ x.take k) N) wr) ∧ Below base w wr) (fun v7 _ => x.length - (intOf v7).toNat)
  case atStart => exact ⟨0, Nat.zero_le _, rfl, by rw [List.take_zero, List.append_nil]; exact HV, Below.refl _ _⟩
  case round =>
    clear HV
    obtain ⟨k, hk, rfl, HV, hbw⟩ := hrel
    by_cases hlt : k < x.length
    · have hix := ix_str x k hlt
      have hpl : (P ++ x.take k).length = P.length + k := by simp; omega
      have hkl : P.length + k < (LayB (P ++ x.take k) N).length := by rw [LayB_len _ _ (by omega)]; omega
      have hold := (HV.out.2 _ hkl).1
      have hfro := (HV.out.2 _ hkl).2
      rw [List.getElem?_eq_getElem hkl] at hold
      have hset := VBuf.set HV.out _ hkl (bc (x.getD k 0))
      have hput := LayB_put (P ++ x.take k) N (x.getD k 0) (by omega)
      rw [hpl] at hput
      rw [hput, List.append_assoc, show x.take k ++ [x.getD k 0] = x.take (k + 1) from by rw [List.take_succ_eq_append_getElem hlt]; simp [hlt]] at hset
      have hbs := hbw.setCell (p := ⟨g, P.length + k, none⟩) hb (bc (x.getD k 0))
      obtain ⟨c, hc⟩ : ∃ c, c = x.getD k 0 := ⟨_, rfl⟩
      rw [← hc] at hix hset hbs
      unfold bc at hset hbs
      have HV2 : Hid (VBuf g (LayB (P ++ x.take (k + 1)) N) (wr.setCell ⟨g, P.length + k, none⟩ (.int .u8 c.toNat))) := hset
      have HB2 : Hid (Below base w (wr.setCell ⟨g, P.length + k, none⟩ (.int .u8 c.toNat))) := hbs
      clear hc hset hbs hput HV hbw
      go_wp2
      go_roundw
      case rel => exact ⟨k + 1, hlt, by go_num, HV2, HB2.out⟩
      case measure => simp [intOf]; omega
    · obtain rfl : k = x.length := by omega
      rw [List.take_of_length_le (Nat.le_refl _)] at HV
      go_wp2
      go_ret
      exact ⟨by go_num, HV.out, hbw⟩

set_option maxHeartbeats 1000000 in
set_option maxRecDepth 100000 in
theorem bytes19 (x : List UInt8) (w : World) (hx : x.length ≤ 1048576) :
    Calls Tryd.prog 19 #[.string ⟨x.toArray⟩] w fun e w' => e = .returned (.slice (some ⟨w.heap.size, 0, none⟩) x.length x.length) ∧ BRow w' (some ⟨w.heap.size, 0, none⟩) x.length x ∧ Below w.heap.size w w' := by
  have hmk := run_make_row' (P := Tryd.prog) 22 5 (.int .u8 0) 1 Tryd.underlying22 Tryd.info5 rfl .i64 .i64 x.length (by omega) (by omega)
  go_enter Tryd.func19, Tryd.ntmps19
  go_wp2_with fail
  have hvb := vbuf_made w (.int .u8 0) x.length 5
  have hbel : Below w.heap.size w (w.alloc (.cells (madeCells #[Value.int .u8 0] x.length) 5)) := (Below.refl _ _).alloc (Nat.le_refl _) _
  rw [half_zero x x.length] at hvb
  obtain ⟨w2, hw2⟩ : ∃ w2, w2 = w.alloc (.cells (madeCells #[Value.int .u8 0] x.length) 5) := ⟨_, rfl⟩
  rw [← hw2] at hvb hbel ⊢
  clear hw2
  go_loopw [4] (fun i wr => ∃ (k : Nat), k ≤ x.length ∧ i = .int .i64 k ∧ Hid (VBuf w.heap.size (half x x.length k) wr) ∧ Below w.heap.size w wr) (fun i _ => x.length - (intOf i).toNat)
  case atStart => exact ⟨0, Nat.zero_le _, rfl, hvb, hbel⟩
  case round =>
    clear hvb hbel
    obtain ⟨k, hk, rfl, HV, hb⟩ := hrel
    by_cases hlt : k < x.length
    · have hix := ix_str x k hlt
      have hkl : k < (half x x.length k).length := by rw [half_len x x.length k rfl hk]; exact hlt
      have hold := (HV.out.2 k hkl).1
      have hfro := (HV.out.2 k hkl).2
      rw [List.getElem?_eq_getElem hkl] at hold
      have hv2 := VBuf.set HV.out k hkl (bc (x.getD k 0))
      rw [half_step x x.length k rfl hlt] at hv2
      have hb2 := hb.setCell (p := ⟨w.heap.size, k, none⟩) (Nat.le_refl _) (bc (x.getD k 0))
      obtain ⟨c, hc⟩ : ∃ c, c = x.getD k 0 := ⟨_, rfl⟩
      rw [← hc] at hix hv2 hb2
      unfold bc at hv2 hb2
      have HV2 : Hid (VBuf w.heap.size (half x x.length (k + 1)) (wr.setCell ⟨w.heap.size, k, none⟩ (.int .u8 c.toNat))) := hv2
      have HB2 : Hid (Below w.heap.size w (wr.setCell ⟨w.heap.size, k, none⟩ (.int .u8 c.toNat))) := hb2
      clear hc hv2 hb2 HV hb
      go_wp2
      go_roundw
      case rel => exact ⟨k + 1, hlt, by go_num, HV2, HB2.out⟩
      case measure => simp [intOf]; omega
    · obtain rfl : k = x.length := by omega
      rw [half_all x x.length rfl] at HV
      have H1 : Hid (BRow wr (some ⟨w.heap.size, 0, none⟩) x.length x) := vbuf_row HV.out
      go_wp2
      go_ret
      exact ⟨rfl, H1.out, hb⟩
end Go.Proofs.Qxb6602401aDoor
