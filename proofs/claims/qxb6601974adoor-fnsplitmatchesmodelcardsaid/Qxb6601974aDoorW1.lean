import Derived.Test.Qxb6601974aDoorRows
import Derived.Test.Qxb6601974aDoorShelf
import Derived.WalkKit
import Derived.WalkSpells
import Derived.WalkLawsBesides
import Derived.Deep.DeepCutAuto
import Derived.Deep.CutBlock
import Derived.Deep.QuietTactic
import Derived.BigQuiet
import Derived.Lib.SmallJoins
namespace Go.Proofs.Qxb6601974aDoor
open Go.RowKit

theorem ret_bool {a b : Bool} (h : a = b) : Ending.returned (.bool a) = .returned (.bool b) := by rw [h]

def sc (l : List UInt8) : Value := .string ⟨l.toArray⟩
def lens (vs : List (List UInt8)) : Nat := (vs.map (·.length)).sum

theorem lens_succ (vs : List (List UInt8)) (k : Nat) (h : k < vs.length) : lens (vs.take (k + 1)) = lens (vs.take k) + (vs.getD k []).length := by
  unfold lens
  rw [List.take_succ_eq_append_getElem h, List.map_append, List.sum_append]
  simp [h]
theorem lens_le (vs : List (List UInt8)) (k : Nat) : lens (vs.take k) ≤ lens vs := by
  have h : lens vs = lens (vs.take k) + lens (vs.drop k) := by
    unfold lens
    rw [← List.sum_append, ← List.map_append, List.take_append_drop]
  omega
theorem lens_all (vs : List (List UInt8)) : lens (vs.take vs.length) = lens vs := by rw [List.take_of_length_le (Nat.le_refl _)]
theorem len_mem (vs : List (List UInt8)) (k : Nat) (h : k < vs.length) : (vs.getD k []).length ≤ lens vs := by
  have h1 := lens_succ vs k h
  have h2 := lens_le vs (k + 1)
  omega

/-- a slice of strings that holds the texts vs -/
def SRow (w : World) (ao : Option Addr) (n : Nat) (vs : List (List UInt8)) : Prop :=
  vs.length = n ∧ (n = 0 ∨ ∃ b off, ao = some ⟨b, off, none⟩ ∧ b < w.heap.size ∧ ∀ i, i < n → w.cell? ⟨b, off + i, none⟩ = some (sc (vs.getD i [])))

theorem SRow.at {w : World} {ao : Option Addr} {n : Nat} {vs : List (List UInt8)} (h : SRow w ao n vs) (k : Nat) (hk : k < n) :
    ∃ b off, ao = some ⟨b, off, none⟩ ∧ w.cell? ⟨b, off + k, none⟩ = some (sc (vs.getD k [])) := by
  rcases h.2 with h0 | ⟨b, off, h1, _, h2⟩
  · omega
  · exact ⟨b, off, h1, h2 k hk⟩

theorem SRow.later {w w' : World} {ao : Option Addr} {n : Nat} {vs : List (List UInt8)} (h : SRow w ao n vs) (hb : Below w.heap.size w w') : SRow w' ao n vs := by
  refine ⟨h.1, ?_⟩
  rcases h.2 with h0 | ⟨b, off, h1, h3, h2⟩
  · exact .inl h0
  · exact .inr ⟨b, off, h1, Nat.lt_of_lt_of_le h3 hb.size, fun i hi => (hb.cell (p := ⟨b, off + i, none⟩) h3).trans (h2 i hi)⟩

set_option maxHeartbeats 1000000 in
set_option maxRecDepth 100000 in
theorem bytes15 (ao : Option Addr) (n cap : Nat) (vs : List (List UInt8)) (val sep : List UInt8) (w : World) (hrow : SRow w ao n vs) (hn : n ≤ 9223372036854775807) (hv : ∀ i, i < n → (vs.getD i []).length ≤ 9223372036854775807)
    (h1 : val.length ≤ 9223372036854775807) (h2 : sep.length ≤ 9223372036854775807) :
    Calls Tryd.prog 15 #[.slice ao n cap, .string ⟨val.toArray⟩, .string ⟨sep.toArray⟩] w fun e w' => e = .returned (.bool (decide (n + lens vs + val.length + sep.length ≤ 1048576))) ∧ w' = w := by
  obtain ⟨T, HT⟩ : ∃ T : Nat, Hid (T = n + lens vs + val.length + sep.length) := ⟨_, rfl⟩
  rw [← HT.out]
  by_cases hn1 : n ≤ 1048576
  · have HV : Hid _ := hv
    have HRW : Hid _ := hrow
    have hlv : Hid (vs.length = n) := hrow.1
    clear hv hrow
    go_enter Tryd.func15, Tryd.ntmps15
    go_wp2_with fail
    go_loop [7, 8] (fun z i => ∃ (k s : Nat), k ≤ n ∧ i = .int .i64 k ∧ z = .int .i64 s ∧ s ≤ 1048576 ∧ Hid (s = n + lens (vs.take k))) (fun _ i => n - (intOf i).toNat)
    case atStart => exact ⟨0, n, Nat.zero_le _, rfl, rfl, hn1, by simp [lens, Hid]⟩
    case round =>
      obtain ⟨k, s, hk, rfl, rfl, hs, HS⟩ := hrel
      by_cases hlt : k < n
      · obtain ⟨b, off, hao, hcell⟩ := SRow.at HRW.out k hlt
        subst hao
        have hx1 := HV.out k hlt
        have hsuc := lens_succ vs k (by rw [hlv.out]; exact hlt)
        have hle := lens_le vs (k + 1)
        obtain ⟨x, hx⟩ : ∃ x, x = vs.getD k [] := ⟨_, rfl⟩
        rw [← hx] at hcell hx1 hsuc
        have HSU : Hid _ := hsuc
        clear hsuc hx
        unfold sc at hcell
        by_cases hb : x.length ≤ 1048576
        · by_cases hb2 : s + x.length ≤ 1048576
          · go_wp2
            go_round
            case rel => exact ⟨k + 1, s + x.length, by omega, by go_num, by go_num, hb2, by rw [HS.out, HSU.out]; simp [Hid]; omega⟩
            case measure => simp [intOf]; omega
          · have hT : ¬ T ≤ 1048576 := by rw [HT.out]; have := HS.out; have := HSU.out; omega
            go_wp2
            go_ret
            exact ⟨ret_bool (by simp), rfl⟩
        · have hT : ¬ T ≤ 1048576 := by rw [HT.out]; have := HSU.out; omega
          go_wp2
          go_ret
          exact ⟨ret_bool (by simp), rfl⟩
      · obtain rfl : k = n := by omega
        have hall := lens_all vs
        rw [hlv.out] at hall
        have HS2 : Hid (s = k + lens vs) := by rw [HS.out, hall]; exact rfl
        clear hall HS
        by_cases hb1 : val.length ≤ 1048576
        · by_cases hb2 : s + val.length ≤ 1048576
          · by_cases hb3 : sep.length ≤ 1048576
            · by_cases hb4 : s + val.length + sep.length ≤ 1048576
              · have hT : T ≤ 1048576 := by rw [HT.out]; have := HS2.out; omega
                go_wp2
                go_ret
                exact ⟨ret_bool (by simp), rfl⟩
              · have hT : ¬ T ≤ 1048576 := by rw [HT.out]; have := HS2.out; omega
                go_wp2
                go_ret
                exact ⟨ret_bool (by simp), rfl⟩
            · have hT : ¬ T ≤ 1048576 := by rw [HT.out]; omega
              go_wp2
              go_ret
              exact ⟨ret_bool (by simp), rfl⟩
          · have hT : ¬ T ≤ 1048576 := by rw [HT.out]; have := HS2.out; omega
            go_wp2
            go_ret
            exact ⟨ret_bool (by simp), rfl⟩
        · have hT : ¬ T ≤ 1048576 := by rw [HT.out]; omega
          go_wp2
          go_ret
          exact ⟨ret_bool (by simp), rfl⟩
  · have hT : ¬ T ≤ 1048576 := by rw [HT.out]; omega
    go_enter Tryd.func15, Tryd.ntmps15
    go_wp2
    go_ret
    exact ⟨ret_bool (by simp; omega), rfl⟩
end Go.Proofs.Qxb6601974aDoor
