import Derived.Test.Qxb6602401aDoorW11
namespace Go.Proofs.Qxb6602401aDoor
open Go.RowKit

def sc (l : List UInt8) : Value := .string ⟨l.toArray⟩
def lens (vs : List (List UInt8)) : Nat := (vs.map (·.length)).sum

theorem lens_succ (vs : List (List UInt8)) (k : Nat) (h : k < vs.length) : lens (vs.take (k + 1)) = lens (vs.take k) + (vs.getD k []).length := by
  unfold lens
  rw [List.take_succ_eq_append_getElem h, List.map_append, List.sum_append]
  simp [h]
theorem lens_le (vs : List (List UInt8)) (k : Nat) : lens (vs.take k) ≤ lens vs := by
  have h : lens vs = lens (vs.take k) + lens (vs.drop k) := by
    unfold lens
    rw [← List.sum_append, ← List.map_append, List.take_append_drop]
  omega
theorem lens_all (vs : List (List UInt8)) : lens (vs.take vs.length) = lens vs := by rw [List.take_of_length_le (Nat.le_refl _)]
theorem len_mem (vs : List (List UInt8)) (k : Nat) (h : k < vs.length) : (vs.getD k []).length ≤ lens vs := by
  have h1 := lens_succ vs k h
  have h2 := lens_le vs (k + 1)
  omega

/-- a slice of strings that holds the texts vs -/
def SRow (w : World) (ao : Option Addr) (n : Nat) (vs : List (List UInt8)) : Prop :=
  vs.length = n ∧ (n = 0 ∨ ∃ b off, ao = some ⟨b, off, none⟩ ∧ b < w.heap.size ∧ ∀ i, i < n → w.cell? ⟨b, off + i, none⟩ = some (sc (vs.getD i [])))

theorem SRow.at {w : World} {ao : Option Addr} {n : Nat} {vs : List (List UInt8)} (h : SRow w ao n vs) (k : Nat) (hk : k < n) :
    ∃ b off, ao = some ⟨b, off, none⟩ ∧ w.cell? ⟨b, off + k, none⟩ = some (sc (vs.getD k [])) := by
  rcases h.2 with h0 | ⟨b, off, h1, _, h2⟩
  · omega
  · exact ⟨b, off, h1, h2 k hk⟩

theorem SRow.later {w w' : World} {ao : Option Addr} {n : Nat} {vs : List (List UInt8)} (h : SRow w ao n vs) (hb : Below w.heap.size w w') : SRow w' ao n vs := by
  refine ⟨h.1, ?_⟩
  rcases h.2 with h0 | ⟨b, off, h1, h3, h2⟩
  · exact .inl h0
  · exact .inr ⟨b, off, h1, Nat.lt_of_lt_of_le h3 hb.size, fun i hi => (hb.cell (p := ⟨b, off + i, none⟩) h3).trans (h2 i hi)⟩

set_option maxHeartbeats 1000000 in
set_option maxRecDepth 100000 in
theorem bytes14 (ao : Option Addr) (n cap : Nat) (vs : List (List UInt8)) (val : List UInt8) (w : World) (hrow : SRow w ao n vs) (hn : n ≤ 9223372036854775807) (hv : ∀ i, i < n → (vs.getD i []).length ≤ 9223372036854775807)
    (h1 : val.length ≤ 9223372036854775807) :
    Calls Tryd.prog 14 #[.slice ao n cap, .string ⟨val.toArray⟩] w fun e w' => e = .returned (.bool (decide (n + lens vs + val.length ≤ 1048576))) ∧ w' = w := by
  obtain ⟨T, HT⟩ : ∃ T : Nat, Hid (T = n + lens vs + val.length) := ⟨_, rfl⟩
  rw [← HT.out]
  by_cases hn1 : n ≤ 1048576
  · have HV : Hid _ := hv
    have HRW : Hid _ := hrow
    have hlv : Hid (vs.length = n) := hrow.1
    clear hv hrow
    go_enter Tryd.func14, Tryd.ntmps14
    go_wp2_with fail
    go_loop [5, 6] (fun z i => ∃ (k s : Nat), k ≤ n ∧ i = .int .i64 k ∧ z = .int .i64 s ∧ s ≤ 1048576 ∧ Hid (s = n + lens (vs.take k))) (fun _ i => n - (intOf i).toNat)
    case atStart => exact ⟨0, n, Nat.zero_le _, rfl, rfl, hn1, by simp [lens, Hid]⟩
    case round =>
      obtain ⟨k, s, hk, rfl, rfl, hs, HS⟩ := hrel
      by_cases hlt : k < n
      · obtain ⟨b, off, hao, hcell⟩ := SRow.at HRW.out k hlt
        subst hao
        have hx1 := HV.out k hlt
        have hsuc := lens_succ vs k (by rw [hlv.out]; exact hlt)
        have hle := lens_le vs (k + 1)
        obtain ⟨x, hx⟩ : ∃ x, x = vs.getD k [] := ⟨_, rfl⟩
        rw [← hx] at hcell hx1 hsuc
        have HSU : Hid _ := hsuc
        clear hsuc hx
        unfold sc at hcell
        by_cases hb : x.length ≤ 1048576
        · by_cases hb2 : s + x.length ≤ 1048576
          · go_wp2
            go_round
            case rel => exact ⟨k + 1, s + x.length, by omega, by go_num, by go_num, hb2, by rw [HS.out, HSU.out]; simp [Hid]; omega⟩
            case measure => simp [intOf]; omega
          · have hT : ¬ T ≤ 1048576 := by rw [HT.out]; have := HS.out; have := HSU.out; omega
            go_wp2
            go_ret
            exact ⟨ret_bool (by simp), rfl⟩
        · have hT : ¬ T ≤ 1048576 := by rw [HT.out]; have := HSU.out; omega
          go_wp2
          go_ret
          exact ⟨ret_bool (by simp), rfl⟩
      · obtain rfl : k = n := by omega
        have hall := lens_all vs
        rw [hlv.out] at hall
        have HS2 : Hid (s = k + lens vs) := by rw [HS.out, hall]; exact rfl
        clear hall HS
        by_cases hb1 : val.length ≤ 1048576
        · by_cases hb2 : s + val.length ≤ 1048576
          · have hT : T ≤ 1048576 := by rw [HT.out]; have := HS2.out; omega
            go_wp2
            go_ret
            exact ⟨ret_bool (by simp), rfl⟩
          · have hT : ¬ T ≤ 1048576 := by rw [HT.out]; have := HS2.out; omega
            go_wp2
            go_ret
            exact ⟨ret_bool (by simp), rfl⟩
        · have hT : ¬ T ≤ 1048576 := by rw [HT.out]; omega
          go_wp2
          go_ret
          exact ⟨ret_bool (by simp), rfl⟩
  · have hT : ¬ T ≤ 1048576 := by rw [HT.out]; omega
    go_enter Tryd.func14, Tryd.ntmps14
    go_wp2
    go_ret
    exact ⟨ret_bool (by simp; omega), rfl⟩
theorem Tryd.info9 : (Tryd.prog.info? 9).map (fun i => (i.zero, i.size, i.bytes)) = some (some (.string ⟨#[]⟩), 1, 16) := by kernel_rfl

def Ss (K : List (List UInt8)) : List Value := K.map sc
def shalf (vs : List (List UInt8)) (n k : Nat) : List Value := Ss (vs.take k) ++ List.replicate (n - k) (.string ⟨#[]⟩)
theorem shalf_zero (vs : List (List UInt8)) (n : Nat) : List.replicate n (.string ⟨#[]⟩) = shalf vs n 0 := by simp [shalf, Ss]
theorem shalf_step (vs : List (List UInt8)) (n k : Nat) (h : vs.length = n) (hk : k < n) : (shalf vs n k).set k (sc (vs.getD k [])) = shalf vs n (k + 1) := by
  unfold shalf Ss
  rw [List.take_succ_eq_append_getElem (by omega : k < vs.length)]
  have hl : ((vs.take k).map sc).length = k := by simp; omega
  rw [List.set_append_right _ _ (by omega), hl, Nat.sub_self, show n - k = (n - (k + 1)) + 1 from by omega, List.replicate_succ, List.set_cons_zero, List.map_append, List.append_assoc]
  congr 1
  simp [(by omega : k < vs.length)]
theorem shalf_len (vs : List (List UInt8)) (n k : Nat) (h : vs.length = n) (hk : k ≤ n) : (shalf vs n k).length = n := by
  unfold shalf Ss; simp; omega
theorem shalf_all (vs : List (List UInt8)) (n : Nat) (h : vs.length = n) : shalf vs n n = Ss vs := by
  unfold shalf; simp [← h]
theorem svbuf_row {b : Nat} {vs : List (List UInt8)} {w : World} (h : VBuf b (Ss vs) w) : SRow w (some ⟨b, 0, none⟩) vs.length vs := by
  refine ⟨rfl, .inr ⟨b, 0, rfl, h.1, fun i hi => ?_⟩⟩
  rw [Nat.zero_add, (h.2 i (by simpa [Ss] using hi)).1]
  simp [Ss, hi]

set_option maxHeartbeats 1000000 in
set_option maxRecDepth 100000 in
theorem clone17 (ao : Option Addr) (n cap : Nat) (vs : List (List UInt8)) (w : World) (hrow : SRow w ao n vs) (hn : n ≤ 1048576) :
    Calls Tryd.prog 17 #[.slice ao n cap] w fun e w' => ∃ ao' cap', e = .returned (.slice ao' n cap') ∧ SRow w' ao' n vs ∧ Below w.heap.size w w' := by
  have hlv : Hid (vs.length = n) := hrow.1
  have HRW : Hid _ := hrow
  clear hrow
  have heq := fun (w : World) (a : Option Addr) (n c : Nat) => Lib.run_eql_slice_nil (P := Tryd.prog) w 29 9 a n c 0 0 Tryd.underlying29
  cases ao with
  | none =>
    have h0 : n = 0 := by
      rcases HRW.out.2 with h | ⟨_, _, h, _⟩
      · exact h
      · cases h
    subst h0
    go_enter Tryd.func17, Tryd.ntmps17
    go_wp2
    go_ret
    exact ⟨none, ⟨0, rfl⟩, ⟨hlv.out, .inl rfl⟩, Below.refl _ _⟩
  | some a =>
    have hmk := run_make_row' (P := Tryd.prog) 29 9 (.string ⟨#[]⟩) 16 Tryd.underlying29 Tryd.info9 rfl .i64 .i64 n (by omega) (by omega)
    go_enter Tryd.func17, Tryd.ntmps17
    go_wp2_with fail
    have hvb := vbuf_made w (.string ⟨#[]⟩) n 9
    have hbel : Below w.heap.size w (w.alloc (.cells (madeCells #[Value.string ⟨#[]⟩] n) 9)) := (Below.refl _ _).alloc (Nat.le_refl _) _
    rw [shalf_zero vs n] at hvb
    obtain ⟨w2, hw2⟩ : ∃ w2, w2 = w.alloc (.cells (madeCells #[Value.string ⟨#[]⟩] n) 9) := ⟨_, rfl⟩
    rw [← hw2] at hvb hbel ⊢
    clear hw2
    go_loopw [4] (fun i wr => ∃ (k : Nat), k ≤ n ∧ i = .int .i64 k ∧ VBuf w.heap.size (shalf vs n k) wr ∧ Below w.heap.size w wr) (fun i _ => n - (intOf i).toNat)
    case atStart => exact ⟨0, Nat.zero_le _, rfl, hvb, hbel⟩
    case round =>
      obtain ⟨k, hk, rfl, hv, hb⟩ := hrel
      by_cases hlt : k < n
      · obtain ⟨b, off, hao, hcell⟩ := SRow.at (SRow.later HRW.out hb) k hlt
        obtain rfl := Option.some.inj hao
        have hkl : k < (shalf vs n k).length := by rw [shalf_len vs n k hlv.out hk]; exact hlt
        have hold := (hv.2 k hkl).1
        have hfro := (hv.2 k hkl).2
        rw [List.getElem?_eq_getElem hkl] at hold
        have hv2 := hv.set k hkl (sc (vs.getD k []))
        rw [shalf_step vs n k hlv.out hlt] at hv2
        have hb2 := hb.setCell (p := ⟨w.heap.size, k, none⟩) (Nat.le_refl _) (sc (vs.getD k []))
        obtain ⟨x, hx⟩ : ∃ x, x = vs.getD k [] := ⟨_, rfl⟩
        rw [← hx] at hcell hv2 hb2
        clear hx
        have HV2 : Hid _ := hv2
        have HB2 : Hid _ := hb2
        clear hv2 hb2 hv hb
        unfold sc at hcell
        go_wp2
        go_roundw
        case rel => exact ⟨k + 1, by omega, by go_num, HV2.out, HB2.out⟩
        case measure => simp [intOf]; omega
      · obtain rfl : k = n := by omega
        rw [shalf_all vs k hlv.out] at hv
        have h1 := svbuf_row hv
        rw [hlv.out] at h1
        have H1 : Hid _ := h1
        clear h1 hv
        go_wp2
        go_ret
        exact ⟨_, _, rfl, H1.out, hb⟩

end Go.Proofs.Qxb6602401aDoor
