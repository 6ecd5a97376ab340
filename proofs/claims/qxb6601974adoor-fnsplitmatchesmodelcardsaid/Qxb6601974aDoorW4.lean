import Derived.Test.Qxb6601974aDoorW3
namespace Go.Proofs.Qxb6601974aDoor
open Go.RowKit

theorem index_cases : ∀ s v : List UInt8, (Lib.index s v = -1 ∧ ∀ j, Lib.occAt s v j = true → v = []) ∨ ∃ i : Nat, Lib.index s v = i ∧ i ≤ s.length ∧ Lib.occAt s v i = true ∧ ∀ j, j < i → Lib.occAt s v j = false
  | [], v => by
    cases v with
    | nil => exact .inr ⟨0, rfl, Nat.le_refl _, rfl, fun j hj => absurd hj (Nat.not_lt_zero _)⟩
    | cons a t => exact .inl ⟨rfl, fun j h => by simp [Lib.occAt] at h⟩
  | b :: l, v => by
    by_cases h0 : v.isPrefixOf (b :: l) = true
    · exact .inr ⟨0, by unfold Lib.index; rw [if_pos h0]; rfl, Nat.zero_le _, h0, fun j hj => absurd hj (Nat.not_lt_zero _)⟩
    · rcases index_cases l v with ⟨h1, h2⟩ | ⟨i, h1, h2, h3, h4⟩
      · refine .inl ⟨by unfold Lib.index; rw [if_neg h0, h1]; rfl, fun j h => ?_⟩
        cases j with
        | zero => exact absurd h h0
        | succ j => exact h2 j h
      · refine .inr ⟨i + 1, by unfold Lib.index; rw [if_neg h0, h1, if_neg (by simp)]; omega, Nat.succ_le_succ h2, h3, fun j hj => ?_⟩
        cases j with
        | zero => exact Bool.eq_false_iff.2 h0
        | succ j => exact h4 j (by omega)

theorem occ_drop (t v : List UInt8) (a j : Nat) : Lib.occAt (t.drop a) v j = Lib.occAt t v (a + j) := by
  unfold Lib.occAt; rw [List.drop_drop]

def occsTo (t v : List UInt8) (a : Nat) : List Nat := (List.range a).filter (Lib.occAt t v)
def spv (t v : List UInt8) (a : Nat) : List (Nat × Nat) := (occsTo t v a).map fun x => (x, v.length)
def spans (t : List UInt8) (vs : List (List UInt8)) : List (Nat × Nat) := vs.flatMap fun v => spv t v (t.length + 1)

theorem occsTo_same (t v : List UInt8) (a : Nat) : ∀ k, (∀ j, j < k → Lib.occAt t v (a + j) = false) → occsTo t v (a + k) = occsTo t v a
  | 0, _ => rfl
  | k + 1, h => by
    have ih := occsTo_same t v a k (fun j hj => h j (by omega))
    unfold occsTo at ih ⊢
    rw [← Nat.add_assoc, List.range_succ, List.filter_append, ih]
    simp [h k (by omega)]

theorem spv_hit (t v : List UInt8) (a i : Nat) (h : Lib.occAt (t.drop a) v i = true) (hn : ∀ j, j < i → Lib.occAt (t.drop a) v j = false) :
    spv t v (a + i + 1) = spv t v a ++ [(a + i, v.length)] := by
  have h1 := occsTo_same t v a i (fun j hj => by rw [← occ_drop]; exact hn j hj)
  rw [occ_drop] at h
  unfold spv occsTo at *
  rw [List.range_succ, List.filter_append, h1]
  simp [h]

theorem spv_miss (t v : List UInt8) (a : Nat) (ha : a ≤ t.length) (hv : v ≠ []) (h : ∀ j, Lib.occAt (t.drop a) v j = true → v = []) : spv t v (t.length + 1) = spv t v a := by
  obtain ⟨k, hk⟩ : ∃ k, t.length + 1 = a + k := ⟨t.length + 1 - a, by omega⟩
  unfold spv
  rw [hk, occsTo_same t v a k (fun j _ => ?_)]
  rw [← occ_drop]
  cases e : Lib.occAt (t.drop a) v j with
  | false => rfl
  | true => exact absurd (h j e) hv

theorem spans_snoc (t : List UInt8) (vs : List (List UInt8)) (k : Nat) (hk : k < vs.length) : spans t (vs.take (k + 1)) = spans t (vs.take k) ++ spv t (vs.getD k []) (t.length + 1) := by
  unfold spans
  rw [List.take_succ_eq_append_getElem hk, List.flatMap_append]
  simp [hk]
theorem spans_none (t : List UInt8) (vs : List (List UInt8)) : spans t (vs.take 0) = [] := by simp [spans]
theorem spv_zero (t v : List UInt8) : spv t v 0 = [] := by simp [spv, occsTo]

def inSp (Sp : List (Nat × Nat)) (p : Nat) : Bool := Sp.any fun q => decide (q.1 ≤ p) && decide (p < q.1 + q.2)
def Fl (n : Nat) (Sp : List (Nat × Nat)) : List Value := (List.range n).map fun p => .bool (inSp Sp p)
theorem Fl_len (n : Nat) (Sp : List (Nat × Nat)) : (Fl n Sp).length = n := by simp [Fl]
theorem Fl_get (n : Nat) (Sp : List (Nat × Nat)) (p : Nat) (h : p < n) : (Fl n Sp)[p]? = some (.bool (inSp Sp p)) := by simp [Fl, h]
theorem Fl_nil (n : Nat) : List.replicate n (.bool false) = Fl n [] := by
  apply List.ext_getElem?
  intro i
  by_cases h : i < n
  · rw [Fl_get n [] i h]; simp [h, inSp]
  · simp [Fl, h]
theorem Fl_zero (n : Nat) (Sp : List (Nat × Nat)) (a : Nat) : Fl n (Sp ++ [(a, 0)]) = Fl n Sp := by
  unfold Fl
  apply List.map_congr_left
  intro p _
  congr 1
  simp only [inSp, List.any_append, List.any_cons, List.any_nil, Bool.or_false]
  have : (decide (a ≤ p) && decide (p < a + 0)) = false := by
    by_cases h : a ≤ p
    · rw [decide_eq_false (by omega : ¬ p < a + 0), Bool.and_false]
    · simp [h]
  rw [this, Bool.or_false]
theorem Fl_set (n : Nat) (Sp : List (Nat × Nat)) (a j : Nat) (h : a + j < n) : (Fl n (Sp ++ [(a, j)])).set (a + j) (.bool true) = Fl n (Sp ++ [(a, j + 1)]) := by
  apply List.ext_getElem?
  intro i
  by_cases hi : i < n
  · rw [Fl_get n _ i hi]
    by_cases e : a + j = i
    · subst e
      rw [List.getElem?_set_self (by rw [Fl_len]; exact h)]
      simp [inSp, List.any_append]
    · rw [List.getElem?_set_ne e, Fl_get n _ i hi]
      congr 2
      simp only [inSp, List.any_append, List.any_cons, List.any_nil, Bool.or_false]
      congr 1
      by_cases h2 : a ≤ i
      · have : decide (i < a + j) = decide (i < a + (j + 1)) := by rw [decide_eq_decide]; omega
        rw [this]
      · simp [h2]
  · rw [List.getElem?_eq_none (by rw [List.length_set, Fl_len]; omega), List.getElem?_eq_none (by rw [Fl_len]; omega)]

/-- what covered answers: nil where there is no span, else the flags of the spans -/
def Cov (base : Nat) (w : World) (v : Value) (n : Nat) (Sp : List (Nat × Nat)) : Prop :=
  (Sp = [] ∧ v = .slice none 0 0) ∨ (Sp ≠ [] ∧ ∃ b, v = .slice (some ⟨b, 0, none⟩) n n ∧ base ≤ b ∧ VBuf b (Fl n Sp) w)

theorem pos_of_cell {w : World} {a : Addr} {v : Value} (h : w.cell? a = some v) : a.block < w.heap.size := by
  by_cases hlt : a.block < w.heap.size
  · exact hlt
  · exfalso
    have h0 : w.heap[a.block]? = none := Array.getElem?_eq_none (by omega)
    simp [World.cell?, h0] at h

theorem Tryd.info4 : (Tryd.prog.info? 4).map (fun i => (i.zero, i.size, i.bytes)) = some (some (.bool false), 1, 1) := by kernel_rfl

theorem Cov.form {base : Nat} {w : World} {v : Value} {n : Nat} {Sp : List (Nat × Nat)} (h : Cov base w v n Sp) :
    ∃ ao l c, v = .slice ao l c ∧ ((ao = none ∧ Sp = []) ∨ ∃ b, ao = some ⟨b, 0, none⟩ ∧ l = n ∧ c = n ∧ base ≤ b ∧ VBuf b (Fl n Sp) w) := by
  rcases h with ⟨h1, h2⟩ | ⟨_, b, h2, h3, h4⟩
  · exact ⟨none, 0, 0, h2, .inl ⟨rfl, h1⟩⟩
  · exact ⟨_, _, _, h2, .inr ⟨b, rfl, rfl, rfl, h3, h4⟩⟩

set_option maxHeartbeats 2000000 in
set_option maxRecDepth 100000 in
theorem covered19 (ao : Option Addr) (n cap : Nat) (vs : List (List UInt8)) (s : ByteArray) (m : Int) (w : World) (hrow : SRow w ao n vs) (hn : n ≤ 1048576) (hs : s.size ≤ 1048576)
    (hv : ∀ i, i < n → (vs.getD i []).length ≠ 0 ∧ (vs.getD i []).length ≤ 1048576) (hm : w.cell? ⟨0, 0, none⟩ = some (.int .i64 m)) :
    Calls Tryd.prog 19 #[.agg #[.slice ao n cap], .string s] w fun e w' => ∃ v, e = .returned v ∧ Cov w.heap.size w' v s.size (spans s.data.toList vs) ∧ Below w.heap.size w w' := by
  have hlv : Hid (vs.length = n) := hrow.1
  have HV : Hid _ := hv
  have HRW : Hid _ := hrow
  have HM : Hid _ := hm
  have h0 : 0 < w.heap.size := pos_of_cell hm
  clear hv hrow hm
  obtain ⟨T, HT⟩ : ∃ T, Hid (T = s.data.toList) := ⟨_, rfl⟩
  rw [← HT.out]
  have HTl : Hid (T.length = s.size) := by rw [HT.out]; exact rfl
  have heq := fun (w : World) (a : Option Addr) (n c : Nat) => Lib.run_eql_slice_nil (P := Tryd.prog) w 35 4 a n c 0 0 Tryd.underlying35
  have hmk := run_make_row' (P := Tryd.prog) 35 4 (.bool false) 1 Tryd.underlying35 Tryd.info4 rfl .i64 .i64 s.size (by omega) (by omega)
  go_enter Tryd.func19, Tryd.ntmps19
  go_wp2_with fail
  have hbel : Below w.heap.size w (w.alloc (.cells #[.slice ao n cap] 29)) := (Below.refl _ _).alloc (Nat.le_refl _) _
  obtain ⟨w2, hw2⟩ : ∃ w2, w2 = w.alloc (.cells #[.slice ao n cap] 29) := ⟨_, rfl⟩
  rw [← hw2] at hbel ⊢
  clear hw2
  go_loopw [5, 14] (fun cv i wr => ∃ (k : Nat), k ≤ n ∧ i = .int .i64 k ∧ Hid (Cov w.heap.size wr cv s.size (spans T (vs.take k))) ∧ Below w.heap.size w wr) (fun _ i _ => n - (intOf i).toNat)
  case atStart => exact ⟨0, Nat.zero_le _, rfl, .inl ⟨spans_none _ _, rfl⟩, hbel⟩
  case round =>
    clear hbel
    obtain ⟨k, hk, rfl, HC, hb⟩ := hrel
    by_cases hlt : k < n
    · obtain ⟨b, off, hao, hcell⟩ := SRow.at (SRow.later HRW.out hb) k hlt
      subst hao
      obtain ⟨hx0, hx1⟩ := HV.out k hlt
      have hsn := spans_snoc T vs k (by rw [hlv.out]; exact hlt)
      obtain ⟨x, hx⟩ : ∃ x, x = vs.getD k [] := ⟨_, rfl⟩
      rw [← hx] at hcell hx0 hx1 hsn
      have HSN : Hid _ := hsn
      clear hx hsn
      unfold sc at hcell
      go_wp2_with fail
      clear hcell
      have HC0 : Hid (Cov w.heap.size wr u5 s.size (spans T (vs.take k) ++ spv T x 0)) := by rw [spv_zero, List.append_nil]; exact HC
      clear HC
      go_loopw [5, 8] (fun cv i wq => ∃ (a : Nat), a ≤ s.size ∧ i = .int .i64 a ∧ Hid (Cov w.heap.size wq cv s.size (spans T (vs.take k) ++ spv T x a)) ∧ Below w.heap.size w wq) (fun _ i _ => s.size - (intOf i).toNat)
      case atStart => exact ⟨0, Nat.zero_le _, rfl, HC0, hb⟩
      case round =>
        clear HC0 hb
        rename World => wq
        obtain ⟨a, ha, rfl, HC, hb⟩ := hrel
        have hm : wq.cell? ⟨0, 0, none⟩ = some (.int .i64 m) := (hb.cell (p := ⟨0, 0, none⟩) h0).trans HM.out
        go_wp2_with fail
        refine (Tryd.strings_Index _ _ m _ (by rw [ByteArray.size_extract]; omega) hm).mono ?_
        rintro en w3 ⟨rfl, rfl⟩
        rw [Lib.extract_to_end, ← HT.out]
        clear hm
        have hne : x ≠ [] := by intro e; rw [e] at hx0; exact hx0 rfl
        rcases index_cases (T.drop a) x with ⟨hi, hno⟩ | ⟨i, hi, hil, hocc, hno⟩
        · rw [show (⟨x.toArray⟩ : ByteArray).data.toList = x from rfl, hi]
          have HC2 : Hid (Cov w.heap.size w3 u5 s.size (spans T (vs.take (k + 1)))) := by
            rw [HSN.out, spv_miss T x a (by rw [HTl.out]; exact ha) hne hno]; exact HC
          clear hno hi hne HC
          go_wp2
          go_roundw
          case rel => exact ⟨k + 1, by omega, by go_num, HC2, hb⟩
          case measure => simp [intOf]; omega
        · rw [show (⟨x.toArray⟩ : ByteArray).data.toList = x from rfl, hi]
          have hroom : a + i + x.length ≤ s.size := by
            rcases Lib.occAt_room hocc with h | h
            · rw [List.length_drop, HTl.out] at h; omega
            · exact absurd h hne
          have hhit := spv_hit T x a i hocc hno
          obtain ⟨Sp, HSp⟩ : ∃ Sp, Hid (Sp = spans T (vs.take k) ++ spv T x a) := ⟨_, rfl⟩
          rw [← HSp.out] at HC
          have HH : Hid (Sp ++ [(a + i, x.length)] = spans T (vs.take k) ++ spv T x (a + i + 1)) := by rw [hhit, HSp.out, List.append_assoc]; exact rfl
          clear hhit hocc hno hil hi hne HSp
          obtain ⟨ao', l, c, rfl, hform⟩ := Cov.form HC.out
          have HF : Hid _ := hform
          clear HC hform
          go_upto_if 28 with fail
          go_cut [5] from 29 to 31 (fun v5 wx => ∃ b, v5 = .slice (some ⟨b, 0, none⟩) s.size s.size ∧ w.heap.size ≤ b ∧ Hid (VBuf b (Fl s.size Sp) wx) ∧ Below w.heap.size w wx)
          case first =>
            as_aux_lemma =>
              rcases HF.out with ⟨rfl, hS⟩ | ⟨b, rfl, rfl, rfl, hb1, hb2⟩
              · subst hS
                go_wp2
                go_meet
                case rel =>
                  refine ⟨w3.heap.size, rfl, hb.size, ?_, hb.alloc hb.size _⟩
                  have h := vbuf_made w3 (.bool false) s.size 4
                  rw [Fl_nil] at h
                  exact h
              · go_wp2
                go_meet
                case rel => exact ⟨b, rfl, hb1, hb2, hb⟩
          case rest =>
            clear HF hb
            obtain ⟨b5, rfl, hb5, HB5, hb⟩ := hcut
            rename World => w5
            go_wp2_with fail
            have HB0 : Hid (VBuf b5 (Fl s.size (Sp ++ [(a + i, 0)])) w5) := by rw [Fl_zero]; exact HB5
            clear HB5
            go_loopw [37] (fun j wz => ∃ (jj : Nat), jj ≤ x.length ∧ j = .int .i64 jj ∧ Hid (VBuf b5 (Fl s.size (Sp ++ [(a + i, jj)])) wz) ∧ Below w.heap.size w wz) (fun j _ => x.length - (intOf j).toNat)
            case atStart => exact ⟨0, Nat.zero_le _, rfl, HB0, hb⟩
            case round =>
              clear HB0 hb
              rename World => wz
              obtain ⟨jj, hjj, rfl, HB, hb⟩ := hrel
              by_cases hlt2 : jj < x.length
              · have hkl : a + i + jj < (Fl s.size (Sp ++ [(a + i, jj)])).length := by rw [Fl_len]; omega
                have hold := (HB.out.2 _ hkl).1
                have hfro := (HB.out.2 _ hkl).2
                rw [List.getElem?_eq_getElem hkl] at hold
                have hv2 := VBuf.set HB.out _ hkl (.bool true)
                rw [Fl_set s.size Sp (a + i) jj (by omega)] at hv2
                have hb2 := hb.setCell (p := ⟨b5, a + i + jj, none⟩) hb5 (.bool true)
                have HV2 : Hid _ := hv2
                have HB2 : Hid _ := hb2
                clear hv2 hb2 HB hb
                go_wp2
                go_roundw
                case rel => exact ⟨jj + 1, by omega, by go_num, HV2, HB2.out⟩
                case measure => simp [intOf]; omega
              · obtain rfl : jj = x.length := by omega
                rw [HH.out] at HB
                have HC2 : Hid (Cov w.heap.size wz (.slice (some ⟨b5, 0, none⟩) s.size s.size) s.size (spans T (vs.take k) ++ spv T x (a + i + 1))) := by
                  refine .inr ⟨?_, b5, rfl, hb5, HB.out⟩
                  rw [← HH.out]; simp
                clear HB
                go_wp2
                go_roundw
                case rel => exact ⟨a + i + 1, by omega, by go_num, HC2, hb⟩
                case measure => simp [intOf]; omega
    · obtain rfl : k = n := by omega
      rw [List.take_of_length_le (by rw [hlv.out]; exact Nat.le_refl _)] at HC
      go_wp2
      go_ret
      exact ⟨_, rfl, HC.out, hb⟩
end Go.Proofs.Qxb6601974aDoor
