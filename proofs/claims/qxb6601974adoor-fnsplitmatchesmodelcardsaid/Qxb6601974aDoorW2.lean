import Derived.Test.Qxb6601974aDoorW1
namespace Go.Proofs.Qxb6601974aDoor
open Go.RowKit

set_option maxHeartbeats 1000000 in
set_option maxRecDepth 100000 in
theorem bytes6 (ao : Option Addr) (n cap : Nat) (vs : List (List UInt8)) (val sep : List UInt8) (w : World) (hrow : SRow w ao n vs) (hn : n ≤ 9223372036854775807) (hv : ∀ i, i < n → (vs.getD i []).length ≤ 9223372036854775807)
    (h1 : val.length ≤ 9223372036854775807) (h2 : sep.length ≤ 9223372036854775807) :
    Calls Tryd.prog 6 #[.slice ao n cap, .string ⟨val.toArray⟩, .string ⟨sep.toArray⟩] w fun e w' => e = .returned (.bool (decide (n + lens vs + val.length + sep.length ≤ 1048576))) ∧ w' = w := by
  obtain ⟨T, HT⟩ : ∃ T : Nat, Hid (T = n + lens vs + val.length + sep.length) := ⟨_, rfl⟩
  rw [← HT.out]
  by_cases hn1 : n ≤ 1048576
  · have HV : Hid _ := hv
    have HRW : Hid _ := hrow
    have hlv : Hid (vs.length = n) := hrow.1
    clear hv hrow
    go_enter Tryd.func6, Tryd.ntmps6
    go_wp2_with fail
    go_loop [7, 8] (fun z i => ∃ (k s : Nat), k ≤ n ∧ i = .int .i64 k ∧ z = .int .i64 s ∧ s ≤ 1048576 ∧ Hid (s = n + lens (vs.take k))) (fun _ i => n - (intOf i).toNat)
    case atStart => exact ⟨0, n, Nat.zero_le _, rfl, rfl, hn1, by simp [lens, Hid]⟩
    case round =>
      obtain ⟨k, s, hk, rfl, rfl, hs, HS⟩ := hrel
      by_cases hlt : k < n
      · obtain ⟨b, off, hao, hcell⟩ := SRow.at HRW.out k hlt
        subst hao
        have hx1 := HV.out k hlt
        have hsuc := lens_succ vs k (by rw [hlv.out]; exact hlt)
        have hle := lens_le vs (k + 1)
        obtain ⟨x, hx⟩ : ∃ x, x = vs.getD k [] := ⟨_, rfl⟩
        rw [← hx] at hcell hx1 hsuc
        have HSU : Hid _ := hsuc
        clear hsuc hx
        unfold sc at hcell
        by_cases hb : x.length ≤ 1048576
        · by_cases hb2 : s + x.length ≤ 1048576
          · go_wp2
            go_round
            case rel => exact ⟨k + 1, s + x.length, by omega, by go_num, by go_num, hb2, by rw [HS.out, HSU.out]; simp [Hid]; omega⟩
            case measure => simp [intOf]; omega
          · have hT : ¬ T ≤ 1048576 := by rw [HT.out]; have := HS.out; have := HSU.out; omega
            go_wp2
            go_ret
            exact ⟨ret_bool (by simp), rfl⟩
        · have hT : ¬ T ≤ 1048576 := by rw [HT.out]; have := HSU.out; omega
          go_wp2
          go_ret
          exact ⟨ret_bool (by simp), rfl⟩
      · obtain rfl : k = n := by omega
        have hall := lens_all vs
        rw [hlv.out] at hall
        have HS2 : Hid (s = k + lens vs) := by rw [HS.out, hall]; exact rfl
        clear hall HS
        by_cases hb1 : val.length ≤ 1048576
        · by_cases hb2 : s + val.length ≤ 1048576
          · by_cases hb3 : sep.length ≤ 1048576
            · by_cases hb4 : s + val.length + sep.length ≤ 1048576
              · have hT : T ≤ 1048576 := by rw [HT.out]; have := HS2.out; omega
                go_wp2
                go_ret
                exact ⟨ret_bool (by simp), rfl⟩
              · have hT : ¬ T ≤ 1048576 := by rw [HT.out]; have := HS2.out; omega
                go_wp2
                go_ret
                exact ⟨ret_bool (by simp), rfl⟩
            · have hT : ¬ T ≤ 1048576 := by rw [HT.out]; omega
              go_wp2
              go_ret
              exact ⟨ret_bool (by simp), rfl⟩
          · have hT : ¬ T ≤ 1048576 := by rw [HT.out]; have := HS2.out; omega
            go_wp2
            go_ret
            exact ⟨ret_bool (by simp), rfl⟩
        · have hT : ¬ T ≤ 1048576 := by rw [HT.out]; omega
          go_wp2
          go_ret
          exact ⟨ret_bool (by simp), rfl⟩
  · have hT : ¬ T ≤ 1048576 := by rw [HT.out]; omega
    go_enter Tryd.func6, Tryd.ntmps6
    go_wp2
    go_ret
    exact ⟨ret_bool (by simp; omega), rfl⟩

set_option maxHeartbeats 1000000 in
set_option maxRecDepth 100000 in
theorem size7 (ao : Option Addr) (n cap : Nat) (vs : List (List UInt8)) (w : World) (hrow : SRow w ao n vs) (hn : n ≤ 9223372036854775807) (hv : ∀ i, i < n → (vs.getD i []).length ≤ 9223372036854775807) :
    Calls Tryd.prog 7 #[.slice ao n cap] w fun e w' => ∃ m : Nat, m ≤ 1048577 ∧ e = .returned (.int .i64 m) ∧ w' = w := by
  have HV : Hid _ := hv
  have HRW : Hid _ := hrow
  clear hv hrow
  go_enter Tryd.func7, Tryd.ntmps7
  go_wp2_with fail
  go_loop [3, 4] (fun z i => ∃ (k s : Nat), k ≤ n ∧ i = .int .i64 k ∧ z = .int .i64 s ∧ s ≤ 1048576) (fun _ i => n - (intOf i).toNat)
  case atStart => exact ⟨0, 0, Nat.zero_le _, rfl, rfl, Nat.zero_le _⟩
  case round =>
    obtain ⟨k, s, hk, rfl, rfl, hs⟩ := hrel
    by_cases hlt : k < n
    · obtain ⟨b, off, hao, hcell⟩ := SRow.at HRW.out k hlt
      subst hao
      have hx1 := HV.out k hlt
      obtain ⟨x, hx⟩ : ∃ x, x = vs.getD k [] := ⟨_, rfl⟩
      rw [← hx] at hcell hx1
      clear hx
      unfold sc at hcell
      by_cases hb : x.length ≤ 1048576
      · by_cases hb2 : s + (16 + x.length) ≤ 1048576
        · go_wp2
          go_round
          case rel => exact ⟨k + 1, s + (16 + x.length), by omega, by go_num, by go_num, hb2⟩
          case measure => simp [intOf]; omega
        · go_wp2
          go_ret
          exact ⟨1048577, Nat.le_refl _, rfl, rfl⟩
      · go_wp2
        go_ret
        exact ⟨1048577, Nat.le_refl _, rfl, rfl⟩
    · obtain rfl : k = n := by omega
      go_wp2
      go_ret
      exact ⟨s, by omega, rfl, rfl⟩

def hasE (vs : List (List UInt8)) : Bool := vs.any (·.isEmpty)
theorem hasE_of (vs : List (List UInt8)) (k : Nat) (hk : k < vs.length) (h : (vs.getD k []).length = 0) : hasE vs = true := by
  unfold hasE
  rw [List.any_eq_true]
  refine ⟨vs[k], List.getElem_mem hk, ?_⟩
  simp [hk] at h
  simp [h]
theorem hasE_not (vs : List (List UInt8)) (h : ∀ k, k < vs.length → (vs.getD k []).length ≠ 0) : hasE vs = false := by
  unfold hasE
  rw [List.any_eq_false]
  intro x hx
  obtain ⟨k, hk, rfl⟩ := List.mem_iff_getElem.1 hx
  have := h k hk
  simp [hk] at this
  simpa using this

set_option maxHeartbeats 1000000 in
set_option maxRecDepth 100000 in
theorem hasEmpty8 (ao : Option Addr) (n cap : Nat) (vs : List (List UInt8)) (w : World) (hrow : SRow w ao n vs) (hn : n ≤ 9223372036854775807) (hv : ∀ i, i < n → (vs.getD i []).length ≤ 9223372036854775807) :
    Calls Tryd.prog 8 #[.slice ao n cap] w fun e w' => e = .returned (.bool (hasE vs)) ∧ w' = w := by
  obtain ⟨r, HR⟩ : ∃ r, Hid (r = hasE vs) := ⟨_, rfl⟩
  rw [← HR.out]
  have hlv : Hid (vs.length = n) := hrow.1
  have HV : Hid _ := hv
  have HRW : Hid _ := hrow
  clear hv hrow
  go_enter Tryd.func8, Tryd.ntmps8
  go_wp2_with fail
  go_loop [3] (fun i => ∃ (k : Nat), k ≤ n ∧ i = .int .i64 k ∧ Hid (∀ j, j < k → (vs.getD j []).length ≠ 0)) (fun i => n - (intOf i).toNat)
  case atStart => exact ⟨0, Nat.zero_le _, rfl, fun j hj => absurd hj (Nat.not_lt_zero _)⟩
  case round =>
    obtain ⟨k, hk, rfl, HS⟩ := hrel
    by_cases hlt : k < n
    · obtain ⟨b, off, hao, hcell⟩ := SRow.at HRW.out k hlt
      subst hao
      have hx1 := HV.out k hlt
      obtain ⟨x, hx⟩ : ∃ x, Hid (x = vs.getD k []) := ⟨_, rfl⟩
      rw [← hx.out] at hcell hx1
      unfold sc at hcell
      by_cases hb : x.length = 0
      · have hB : ((x.length : Int) == 0) = true := by rw [hb]; rfl
        have hr : r = true := by rw [HR.out]; exact hasE_of vs k (by rw [hlv.out]; exact hlt) (by rw [← hx.out]; exact hb)
        subst hr
        clear hb
        go_wp2
        go_ret
        exact ⟨rfl, rfl⟩
      · have hB : ((x.length : Int) == 0) = false := beq_eq_false_iff_ne.2 (by omega)
        have HS2 : Hid (∀ j, j < k + 1 → (vs.getD j []).length ≠ 0) := by
          intro j hj
          by_cases e : j = k
          · subst e; rw [← hx.out]; exact hb
          · exact HS.out j (by omega)
        clear hb
        go_wp2
        go_round
        case rel => exact ⟨k + 1, by omega, by go_num, HS2⟩
        case measure => simp [intOf]; omega
    · obtain rfl : k = n := by omega
      have hr : r = false := by rw [HR.out]; exact hasE_not vs (by rw [hlv.out]; exact HS.out)
      subst hr
      go_wp2
      go_ret
      exact ⟨rfl, rfl⟩

/-- the block b holds the values I, and may be written -/
def VBuf (b : Nat) (I : List Value) (w : World) : Prop := b < w.heap.size ∧ ∀ i, i < I.length → w.cell? ⟨b, i, none⟩ = I[i]? ∧ w.frozen? ⟨b, i, none⟩ = false

theorem VBuf.keep {b : Nat} {I : List Value} {w w' : World} (h : VBuf b I w) (hs : w.heap.size ≤ w'.heap.size) (hb : w'.heap[b]? = w.heap[b]?) : VBuf b I w' :=
  ⟨Nat.lt_of_lt_of_le h.1 hs, fun i hi => ⟨(World.cell?_of_block (w := w) hb).trans (h.2 i hi).1, (World.frozen?_of_block (w := w) hb).trans (h.2 i hi).2⟩⟩

theorem VBuf.set {b : Nat} {I : List Value} {w : World} (h : VBuf b I w) (k : Nat) (hk : k < I.length) (c : Value) : VBuf b (I.set k c) (w.setCell ⟨b, k, none⟩ c) := by
  refine ⟨by have := h.1; simp [World.setCell]; omega, fun i hi => ?_⟩
  rw [List.length_set] at hi
  refine ⟨?_, by rw [World.frozen?_setCell]; exact (h.2 i hi).2⟩
  by_cases e : k = i
  · subst e
    rw [World.cell?_setCell_same _ _ _ ((h.2 k hk).1.trans (List.getElem?_eq_getElem hk))]
    simp [hk]
  · rw [World.cell?_setCell_other _ _ _ _ (by intro h; apply e; cases h; rfl), (h.2 i hi).1]
    simp [List.getElem?_set_ne e]

theorem vbuf_made (w : World) (z : Value) (n e : Nat) : VBuf w.heap.size (List.replicate n z) (w.alloc (.cells (madeCells #[z] n) e)) := by
  refine ⟨by simp, fun i hi => ?_⟩
  have hh : (w.alloc (.cells (madeCells #[z] n) e)).heap[w.heap.size]? = some (.cells (madeCells #[z] n) e) := by
    show (w.heap.push _)[w.heap.size]? = _
    simp
  rw [List.length_replicate] at hi
  constructor
  · simp only [World.cell?]
    rw [hh]
    simp [madeCells, hi, Nat.mod_one]
  · simp only [World.frozen?]
    rw [hh]
    simp

theorem Tryd.info9 : (Tryd.prog.info? 9).map (fun i => (i.zero, i.size, i.bytes)) = some (some (.string ⟨#[]⟩), 1, 16) := by kernel_rfl

def Ss (K : List (List UInt8)) : List Value := K.map sc
def half (vs : List (List UInt8)) (n k : Nat) : List Value := Ss (vs.take k) ++ List.replicate (n - k) (.string ⟨#[]⟩)
theorem half_zero (vs : List (List UInt8)) (n : Nat) : List.replicate n (.string ⟨#[]⟩) = half vs n 0 := by simp [half, Ss]
theorem half_step (vs : List (List UInt8)) (n k : Nat) (h : vs.length = n) (hk : k < n) : (half vs n k).set k (sc (vs.getD k [])) = half vs n (k + 1) := by
  unfold half Ss
  rw [List.take_succ_eq_append_getElem (by omega : k < vs.length)]
  have hl : ((vs.take k).map sc).length = k := by simp; omega
  rw [List.set_append_right _ _ (by omega), hl, Nat.sub_self, show n - k = (n - (k + 1)) + 1 from by omega, List.replicate_succ, List.set_cons_zero, List.map_append, List.append_assoc]
  congr 1
  simp [(by omega : k < vs.length)]
theorem half_len (vs : List (List UInt8)) (n k : Nat) (h : vs.length = n) (hk : k ≤ n) : (half vs n k).length = n := by
  unfold half Ss; simp; omega
theorem half_all (vs : List (List UInt8)) (n : Nat) (h : vs.length = n) : half vs n n = Ss vs := by
  unfold half; simp [← h]
theorem vbuf_row {b : Nat} {vs : List (List UInt8)} {w : World} (h : VBuf b (Ss vs) w) : SRow w (some ⟨b, 0, none⟩) vs.length vs := by
  refine ⟨rfl, .inr ⟨b, 0, rfl, h.1, fun i hi => ?_⟩⟩
  rw [Nat.zero_add, (h.2 i (by simpa [Ss] using hi)).1]
  simp [Ss, hi]

set_option maxHeartbeats 1000000 in
set_option maxRecDepth 100000 in
theorem clone9 (ao : Option Addr) (n cap : Nat) (vs : List (List UInt8)) (w : World) (hrow : SRow w ao n vs) (hn : n ≤ 1048576) :
    Calls Tryd.prog 9 #[.slice ao n cap] w fun e w' => ∃ ao' cap', e = .returned (.slice ao' n cap') ∧ SRow w' ao' n vs ∧ Below w.heap.size w w' := by
  have hlv : Hid (vs.length = n) := hrow.1
  have HRW : Hid _ := hrow
  clear hrow
  have heq := fun (w : World) (a : Option Addr) (n c : Nat) => Lib.run_eql_slice_nil (P := Tryd.prog) w 22 9 a n c 0 0 Tryd.underlying22
  cases ao with
  | none =>
    have h0 : n = 0 := by
      rcases HRW.out.2 with h | ⟨_, _, h, _⟩
      · exact h
      · cases h
    subst h0
    go_enter Tryd.func9, Tryd.ntmps9
    go_wp2
    go_ret
    exact ⟨none, ⟨0, rfl⟩, ⟨hlv.out, .inl rfl⟩, Below.refl _ _⟩
  | some a =>
    have hmk := run_make_row' (P := Tryd.prog) 22 9 (.string ⟨#[]⟩) 16 Tryd.underlying22 Tryd.info9 rfl .i64 .i64 n (by omega) (by omega)
    go_enter Tryd.func9, Tryd.ntmps9
    go_wp2_with fail
    have hvb := vbuf_made w (.string ⟨#[]⟩) n 9
    have hbel : Below w.heap.size w (w.alloc (.cells (madeCells #[Value.string ⟨#[]⟩] n) 9)) := (Below.refl _ _).alloc (Nat.le_refl _) _
    rw [half_zero vs n] at hvb
    obtain ⟨w2, hw2⟩ : ∃ w2, w2 = w.alloc (.cells (madeCells #[Value.string ⟨#[]⟩] n) 9) := ⟨_, rfl⟩
    rw [← hw2] at hvb hbel ⊢
    clear hw2
    go_loopw [4] (fun i wr => ∃ (k : Nat), k ≤ n ∧ i = .int .i64 k ∧ VBuf w.heap.size (half vs n k) wr ∧ Below w.heap.size w wr) (fun i _ => n - (intOf i).toNat)
    case atStart => exact ⟨0, Nat.zero_le _, rfl, hvb, hbel⟩
    case round =>
      obtain ⟨k, hk, rfl, hv, hb⟩ := hrel
      by_cases hlt : k < n
      · obtain ⟨b, off, hao, hcell⟩ := SRow.at (SRow.later HRW.out hb) k hlt
        obtain rfl := Option.some.inj hao
        have hkl : k < (half vs n k).length := by rw [half_len vs n k hlv.out hk]; exact hlt
        have hold := (hv.2 k hkl).1
        have hfro := (hv.2 k hkl).2
        rw [List.getElem?_eq_getElem hkl] at hold
        have hv2 := hv.set k hkl (sc (vs.getD k []))
        rw [half_step vs n k hlv.out hlt] at hv2
        have hb2 := hb.setCell (p := ⟨w.heap.size, k, none⟩) (Nat.le_refl _) (sc (vs.getD k []))
        obtain ⟨x, hx⟩ : ∃ x, x = vs.getD k [] := ⟨_, rfl⟩
        rw [← hx] at hcell hv2 hb2
        clear hx
        have HV2 : Hid _ := hv2
        have HB2 : Hid _ := hb2
        clear hv2 hb2 hv hb
        unfold sc at hcell
        go_wp2
        go_roundw
        case rel => exact ⟨k + 1, by omega, by go_num, HV2.out, HB2.out⟩
        case measure => simp [intOf]; omega
      · obtain rfl : k = n := by omega
        rw [half_all vs k hlv.out] at hv
        have h1 := vbuf_row hv
        rw [hlv.out] at h1
        have H1 : Hid _ := h1
        clear h1 hv
        go_wp2
        go_ret
        exact ⟨_, _, rfl, H1.out, hb⟩

set_option maxRecDepth 100000 in
theorem newValues10 (ao : Option Addr) (n cap : Nat) (w : World) : Calls Tryd.prog 10 #[.slice ao n cap] w fun e w' => e = .returned (.agg #[.slice ao n cap]) ∧ Below w.heap.size w w' := by
  go_enter Tryd.func10, Tryd.ntmps10
  go_wp2
  exact bodyPost_ret (v := .agg #[.slice ao n cap]) (by simp [results, Tryd.results10, go_sem]) rfl ⟨rfl, (Below.refl _ _).alloc (Nat.le_refl _) _⟩
end Go.Proofs.Qxb6601974aDoor
