import Derived.Test.Qxb6602401aDoorPl
import Derived.Test.Qxb6602401aDoorShelf2
import Derived.Laws.RangeString
namespace Go.Proofs.Qxb6602401aDoor
open Go.RowKit

theorem ch_byte (x : UInt8) (z : Int) (hz : z = x.toNat) : decide (0 ≤ Lib.indexByte CH z.toNat.toUInt8) = isDl x := by
  subst hz
  have : ((x.toNat : Int)).toNat.toUInt8 = x := by
    rw [Int.toNat_natCast]
    apply UInt8.toNat_inj.1
    show (UInt8.ofNat x.toNat).toNat = _
    rw [UInt8.toNat_ofNat']
    exact Nat.mod_eq_of_lt x.toNat_lt
  rw [this, Bool.eq_iff_iff, decide_eq_true_eq, ib_mem, ch_mem]

theorem ch_ascii (C : ByteArray) (hC : C.data.toList = CH) (pos : Nat) (h : pos < C.size) : (C[pos]).toNat < 128 := by
  have h1 : C.data.toList[pos]? = some C[pos] := by rw [List.getElem?_eq_getElem (by exact h)]; rfl
  rw [hC] at h1
  have h2 := List.mem_of_getElem? h1
  have h3 : ∀ c ∈ CH, c.toNat < 128 := by decide
  exact h3 _ h2

set_option maxHeartbeats 2000000 in
set_option maxRecDepth 100000 in
theorem any29_one (b off cap : Nat) (x : UInt8) (w : World) (hc : w.cell? ⟨b, off, none⟩ = some (bc x)) :
    Calls Tryd.prog 29 #[.slice (some ⟨b, off, none⟩) 1 cap, .string ⟨CH.toArray⟩] w fun e w' => e = .returned (.int .i64 (if isDl x then 0 else -1)) ∧ Below w.heap.size w w' := by
  obtain ⟨C, HC⟩ : ∃ C : ByteArray, Hid (C = ⟨CH.toArray⟩) := ⟨_, rfl⟩
  have hCd : Hid (C.data.toList = CH) := by rw [HC.out]; exact rfl
  have hC8 : C.size = 8 := by rw [HC.out]; rfl
  have hCs1 : C.size ≤ 8 := by omega
  have hCs2 : 8 ≤ C.size := by omega
  clear hC8
  rw [← HC.out]
  have hemp : C.toList.isEmpty = false := by rw [Lib.toList_data, hCd.out]; rfl
  have hcall := Tryd.bytealg_IndexByteString C (x.toNat : Int)
  have hbyte := ch_byte x x.toNat rfl
  rw [← hCd.out] at hbyte
  unfold bc at hc
  by_cases hx : x.toNat < 128
  · obtain ⟨z, hz⟩ : ∃ z, z = Lib.indexByte C.data.toList (x.toNat : Int).toNat.toUInt8 := ⟨_, rfl⟩
    rw [← hz] at hcall hbyte
    clear hz
    rw [← hbyte]
    by_cases h0 : 0 ≤ z
    · rw [decide_eq_true h0]
      clear hbyte
      go_enter Tryd.func29, Tryd.ntmps29
      go_wp2
      go_ret
      exact ⟨rfl, Below.refl _ _⟩
    · rw [decide_eq_false h0]
      clear hbyte
      go_enter Tryd.func29, Tryd.ntmps29
      go_wp2
      go_ret
      exact ⟨rfl, Below.refl _ _⟩
  · rw [dl_high x (by omega)]
    clear hcall hbyte
    have hx2 : x.toNat < 256 := x.toNat_lt
    go_enter Tryd.func29, Tryd.ntmps29
    go_wp2_with fail
    rw [decide_eq_true (by omega : (128 : Int) ≤ (x.toNat : Int))]
    go_loopw [5] (fun _v wr => ∃ pos : Nat, wr = w.iter C pos ∧ pos ≤ C.size) (fun _v wr => C.size - wr.iterPos w.heap.size)
    case atStart => exact ⟨0, rfl, Nat.zero_le _⟩
    case round =>
      obtain ⟨pos, rfl, hp⟩ := hrel
      by_cases hlt : pos < C.size
      · have hasc := ch_ascii C hCd.out pos hlt
        have hnx : ∀ ty, (Instr.next (.pointer (some ⟨w.heap.size, 0, none⟩)) true ty).run Tryd.prog (w.iter C pos) = _ := fun ty => run_next_ascii w C pos ty hlt hasc
        obtain ⟨y, hy⟩ : ∃ y, y = (C[pos]).toNat := ⟨_, rfl⟩
        rw [← hy] at hnx hasc
        have hyB : ((y : Int) == 65533) = false := beq_eq_false_iff_ne.2 (by omega)
        clear hy
        go_wp2
        go_roundw
        case rel => exact ⟨pos + 1, rfl, hlt⟩
        case measure => simp; omega
      · have hnx : ∀ ty, (Instr.next (.pointer (some ⟨w.heap.size, 0, none⟩)) true ty).run Tryd.prog (w.iter C pos) = _ := fun ty => run_next_end w C pos ty hlt
        go_wp2
        go_ret
        exact ⟨rfl, (Below.refl _ _).alloc (Nat.le_refl _) _⟩
end Go.Proofs.Qxb6602401aDoor
