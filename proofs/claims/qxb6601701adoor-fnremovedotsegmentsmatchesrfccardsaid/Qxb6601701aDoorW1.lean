import Derived.Test.Qxb6601701aDoorRows
import Derived.Test.Qxb6601701aDoorPl
import Derived.Test.Qxb6601701aDoorShelf
import Derived.WalkKit
import Derived.WalkSpells
import Derived.WalkLawsBesides
import Derived.Deep.DeepCutAuto
import Derived.Deep.CutBlock
import Derived.Lib.SmallJoins
import Derived.Shelf.Strings.PiecesUse
namespace Go.Proofs.Qxb6601701aDoor
open Go.RowKit

theorem ret_bool {a b : Bool} (h : a = b) : Ending.returned (.bool a) = .returned (.bool b) := by rw [h]
theorem ret_str {a b : List UInt8} (h : a = b) : Ending.returned (.string ⟨a.toArray⟩) = .returned (.string ⟨b.toArray⟩) := by rw [h]

set_option maxHeartbeats 400000 in
theorem zzBytes17 (s : ByteArray) (w : World) (hs : s.size ≤ 9223372036854775807) :
    Calls Tryd.prog 17 #[.string s] w fun e w' => e = .returned (.bool (decide ((s.size : Int) ≤ 1048576))) ∧ w' = w := by
  by_cases h1 : (s.size : Int) ≤ 1048576
  · go_enter Tryd.func17, Tryd.ntmps17
    go_wp2
    go_ret
    exact ⟨ret_bool (by simp; omega), rfl⟩
  · go_enter Tryd.func17, Tryd.ntmps17
    go_wp2
    go_ret
    exact ⟨ret_bool (by simp; omega), rfl⟩

set_option maxHeartbeats 400000 in
theorem zzBytes13 (s : ByteArray) (w : World) (hs : s.size ≤ 9223372036854775807) :
    Calls Tryd.prog 13 #[.string s] w fun e w' => e = .returned (.bool (decide ((s.size : Int) ≤ 1048576))) ∧ w' = w := by
  by_cases h1 : (s.size : Int) ≤ 1048576
  · go_enter Tryd.func13, Tryd.ntmps13
    go_wp2
    go_ret
    exact ⟨ret_bool (by simp; omega), rfl⟩
  · go_enter Tryd.func13, Tryd.ntmps13
    go_wp2
    go_ret
    exact ⟨ret_bool (by simp; omega), rfl⟩

/-- a part of a text, as a list -/
theorem ext_list (s : ByteArray) (a b : Nat) : (s.extract a b).toList = (s.data.toList.drop a).take (b - a) := Lib.extract_toList s a b

theorem isDot_of (s : ByteArray) (a b : Nat) : isDot ((s.data.toList.drop a).take (b - a)) = (((s.extract a b).toList == [46]) || ((s.extract a b).toList == [46, 46])) := by
  rw [ext_list]; rfl

theorem no47_step (s : ByteArray) (a j : Nat) (haj : a ≤ j) (hj : j < s.size) (h : (47 : UInt8) ∉ (s.data.toList.drop a).take (j - a)) (hc : s[j] ≠ 47) : (47 : UInt8) ∉ (s.data.toList.drop a).take (j + 1 - a) := by
  rw [show j + 1 - a = (j - a) + 1 from by omega, List.take_succ_eq_append_getElem (by rw [List.length_drop]; show j - a < s.size - a; omega), List.getElem_drop]
  simp only [List.mem_append, List.mem_cons, List.not_mem_nil, or_false, not_or]
  refine ⟨h, ?_⟩
  simp only [show a + (j - a) = j from by omega]
  exact fun e => hc e.symm

theorem spl_at (s : ByteArray) (a j : Nat) (haj : a ≤ j) (hj : j < s.size) (h : (47 : UInt8) ∉ (s.data.toList.drop a).take (j - a)) (hc : s[j] = 47) :
    spl (s.data.toList.drop a) = (s.data.toList.drop a).take (j - a) :: spl (s.data.toList.drop (j + 1)) := by
  have h1 := spl_hit _ (s.data.toList.drop (j + 1)) h
  rw [← h1]
  congr 1
  have h2 : s.data.toList.drop j = 47 :: s.data.toList.drop (j + 1) := by
    rw [List.drop_eq_getElem_cons (by exact hj)]
    congr 1
  rw [← h2]
  have h3 : s.data.toList.drop j = (s.data.toList.drop a).drop (j - a) := by rw [List.drop_drop]; congr 1; omega
  rw [h3, List.take_append_drop]

theorem spl_end (s : ByteArray) (a : Nat) (h : (47 : UInt8) ∉ (s.data.toList.drop a).take (s.size - a)) : spl (s.data.toList.drop a) = [(s.data.toList.drop a).take (s.size - a)] := by
  rw [List.take_of_length_le (by rw [List.length_drop]; exact Nat.le_refl _)] at h ⊢
  exact spl_none _ h

theorem is47 (c : UInt8) : (c = 47) ↔ ((c.toNat : Int) = 47) := by
  constructor
  · intro e; rw [e]; rfl
  · intro e; apply UInt8.toNat_inj.1; simp; omega

theorem any_cons (x : List UInt8) (S : List (List UInt8)) : dotAny (x :: S) = (isDot x || dotAny S) := by simp [dotAny]

set_option maxHeartbeats 1000000 in
set_option maxRecDepth 100000 in
theorem hasDot_any (s : ByteArray) (w : World) (h1 : 1 ≤ s.size) (hs : s.size ≤ 1048576) :
    Calls Tryd.prog 18 #[.string s] w fun e w' => e = .returned (.bool (dotAny (spl s.data.toList.tail))) ∧ w' = w := by
  go_enter Tryd.func18, Tryd.ntmps18
  go_wp2
  go_loop [3, 4] (fun a i => ∃ st j : Nat, a = .int .i64 st ∧ i = .int .i64 j ∧ st ≤ s.size + 1 ∧ j ≤ s.size + 1 ∧
      Hid ((st ≤ j ∧ j ≤ s.size ∧ (47 : UInt8) ∉ (s.data.toList.drop st).take (j - st) ∧ dotAny (spl s.data.toList.tail) = dotAny (spl (s.data.toList.drop st))) ∨ (j = s.size + 1 ∧ dotAny (spl s.data.toList.tail) = false))) (fun _ i => s.size + 1 - (intOf i).toNat)
  case atStart => exact ⟨1, 1, rfl, rfl, by omega, by omega, .inl ⟨by omega, h1, by simp, by rw [List.drop_one]⟩⟩
  case round =>
    obtain ⟨st, j, rfl, rfl, hst, hj, HR⟩ := hrel
    rcases HR.out with ⟨h2, h3, h4, h5⟩ | ⟨h2, h3⟩
    · have H4 : Hid _ := h4
      have H5 : Hid _ := h5
      clear h4 h5 HR
      have hdt := isDot_of s st j
      by_cases hlt : j < s.size
      · have hjB : ((j : Int) == (s.size : Int)) = false := beq_eq_false_iff_ne.2 (by omega)
        by_cases hc : s[j] = 47
        · have hcB : ((s[j].toNat : Int) == 47) = true := beq_iff_eq.2 ((is47 _).1 hc)
          have hsp := spl_at s st j h2 hlt H4.out hc
          have H6 : Hid (dotAny (spl s.data.toList.tail) = (isDot ((s.data.toList.drop st).take (j - st)) || dotAny (spl (s.data.toList.drop (j + 1))))) := by
            rw [H5.out, hsp, any_cons]; exact rfl
          clear hsp hc H5 H4
          cases hd1 : ((s.extract st j).toList == [46])
          · cases hd2 : ((s.extract st j).toList == [46, 46])
            · have H7 : Hid (dotAny (spl s.data.toList.tail) = dotAny (spl (s.data.toList.drop (j + 1)))) := by
                rw [H6.out, hdt, hd1, hd2]; exact rfl
              clear hdt H6
              go_wp2
              go_round
              case rel => exact ⟨j + 1, j + 1, by go_num, by go_num, by omega, by omega, .inl ⟨Nat.le_refl _, by omega, by simp, H7.out⟩⟩
              case measure => simp [intOf]; omega
            · have H7 : Hid (dotAny (spl s.data.toList.tail) = true) := by
                rw [H6.out, hdt, hd1, hd2]; exact rfl
              clear hdt H6
              go_wp2
              go_ret
              exact ⟨ret_bool H7.out.symm, rfl⟩
          · have H7 : Hid (dotAny (spl s.data.toList.tail) = true) := by
              rw [H6.out, hdt, hd1]; exact rfl
            clear hdt H6
            go_wp2
            go_ret
            exact ⟨ret_bool H7.out.symm, rfl⟩
        · have hcB : ((s[j].toNat : Int) == 47) = false := beq_eq_false_iff_ne.2 (fun h => hc ((is47 _).2 h))
          have H7 := no47_step s st j h2 hlt H4.out hc
          have H8 : Hid _ := H7
          clear hc H7 hdt
          go_wp2
          go_round
          case rel => exact ⟨st, j + 1, rfl, by go_num, by omega, by omega, .inl ⟨by omega, by omega, H8.out, H5.out⟩⟩
          case measure => simp [intOf]; omega
      · obtain rfl : j = s.size := by omega
        have hsp := spl_end s st H4.out
        have H6 : Hid (dotAny (spl s.data.toList.tail) = (isDot ((s.data.toList.drop st).take (s.size - st)))) := by
          rw [H5.out, hsp, any_cons]; simp [dotAny, Hid]
        clear hsp H5 H4
        cases hd1 : ((s.extract st s.size).toList == [46])
        · cases hd2 : ((s.extract st s.size).toList == [46, 46])
          · have H7 : Hid (dotAny (spl s.data.toList.tail) = false) := by
              rw [H6.out, hdt, hd1, hd2]; exact rfl
            clear hdt H6
            go_wp2
            go_round
            case rel => exact ⟨s.size + 1, s.size + 1, by go_num, by go_num, by omega, by omega, .inr ⟨rfl, H7.out⟩⟩
            case measure => simp [intOf]
          · have H7 : Hid (dotAny (spl s.data.toList.tail) = true) := by
              rw [H6.out, hdt, hd1, hd2]; exact rfl
            clear hdt H6
            go_wp2
            go_ret
            exact ⟨ret_bool H7.out.symm, rfl⟩
        · have H7 : Hid (dotAny (spl s.data.toList.tail) = true) := by
            rw [H6.out, hdt, hd1]; exact rfl
          clear hdt H6
          go_wp2
          go_ret
          exact ⟨ret_bool H7.out.symm, rfl⟩
    · have H3 : Hid _ := h3
      clear h3 HR
      subst h2
      go_wp2
      go_ret
      exact ⟨ret_bool H3.out.symm, rfl⟩
end Go.Proofs.Qxb6601701aDoor
