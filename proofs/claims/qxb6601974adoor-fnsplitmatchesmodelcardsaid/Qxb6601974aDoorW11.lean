import Derived.Test.Qxb6601974aDoorW8
namespace Go.Proofs.Qxb6601974aDoor
open Go.RowKit

/-- the spans in the model's order: at place a, value by value -/
def spa (t : List UInt8) (a : Nat) (vs : List (List UInt8)) : List (Nat × Nat) := (vs.filter fun v => Lib.occAt t v a).map fun v => (a, v.length)
def spm (t : List UInt8) (vs : List (List UInt8)) (n : Nat) : List (Nat × Nat) := (List.range n).flatMap fun a => spa t a vs

theorem spm_succ (t : List UInt8) (vs : List (List UInt8)) (n : Nat) : spm t vs (n + 1) = spm t vs n ++ spa t n vs := by
  unfold spm; rw [List.range_succ, List.flatMap_append]; simp
theorem spa_hit (t : List UInt8) (a : Nat) (vs : List (List UInt8)) (k : Nat) (hk : k < vs.length) (h : Lib.occAt t (vs.getD k []) a = true) : spa t a (vs.take (k + 1)) = spa t a (vs.take k) ++ [(a, (vs.getD k []).length)] := by
  unfold spa
  rw [List.take_succ_eq_append_getElem hk, List.filter_append, List.map_append]
  simp [hk] at h
  simp [hk, h]
theorem spa_miss (t : List UInt8) (a : Nat) (vs : List (List UInt8)) (k : Nat) (hk : k < vs.length) (h : Lib.occAt t (vs.getD k []) a = false) : spa t a (vs.take (k + 1)) = spa t a (vs.take k) := by
  unfold spa
  rw [List.take_succ_eq_append_getElem hk, List.filter_append, List.map_append]
  simp [hk] at h
  simp [h]

theorem spm_mem (t : List UInt8) (vs : List (List UInt8)) (hv : ∀ v ∈ vs, v ≠ []) (q : Nat × Nat) : q ∈ spm t vs t.length ↔ q ∈ spans t vs := by
  unfold spm spa spans spv occsTo
  simp only [List.mem_flatMap, List.mem_map, List.mem_filter, List.mem_range]
  constructor
  · rintro ⟨a, ha, v, ⟨hv1, ho⟩, rfl⟩
    exact ⟨v, hv1, a, ⟨by omega, ho⟩, rfl⟩
  · rintro ⟨v, hv1, a, ⟨_, ho⟩, rfl⟩
    refine ⟨a, ?_, v, ⟨hv1, ho⟩, rfl⟩
    rcases Lib.occAt_room ho with h | h
    · have : 1 ≤ v.length := by
        have := hv v hv1
        cases v with
        | nil => exact absurd rfl this
        | cons _ _ => simp
      omega
    · exact absurd h (hv v hv1)

theorem inSp_congr {A B : List (Nat × Nat)} (h : ∀ q, q ∈ A ↔ q ∈ B) (p : Nat) : inSp A p = inSp B p := by
  unfold inSp
  rw [Bool.eq_iff_iff, List.any_eq_true, List.any_eq_true]
  constructor
  · rintro ⟨q, h1, h2⟩; exact ⟨q, (h q).1 h1, h2⟩
  · rintro ⟨q, h1, h2⟩; exact ⟨q, (h q).2 h1, h2⟩

set_option maxHeartbeats 2000000 in
set_option maxRecDepth 100000 in
theorem model13 (ao : Option Addr) (n cap : Nat) (vs : List (List UInt8)) (s : ByteArray) (w : World) (hrow : SRow w ao n vs) (hn : n ≤ 1048576) (hs : s.size ≤ 1048576)
    (hv : ∀ i, i < n → (vs.getD i []).length ≠ 0 ∧ (vs.getD i []).length ≤ 1048576) :
    Calls Tryd.prog 13 #[.slice ao n cap, .string s] w fun e w' => ∃ v, e = .returned v ∧ Cov w.heap.size w' v s.size (spm s.data.toList vs s.size) ∧ Below w.heap.size w w' := by
  have hlv : Hid (vs.length = n) := hrow.1
  have HV : Hid _ := hv
  have HRW : Hid (SRow w ao n vs) := hrow
  clear hv hrow
  obtain ⟨T, HT⟩ : ∃ T, Hid (T = s.data.toList) := ⟨_, rfl⟩
  rw [← HT.out]
  have HTl : Hid (T.length = s.size) := by rw [HT.out]; exact rfl
  have heq := fun (w : World) (a : Option Addr) (n c : Nat) => Lib.run_eql_slice_nil (P := Tryd.prog) w 35 4 a n c 0 0 Tryd.underlying35
  have hmk := run_make_row' (P := Tryd.prog) 35 4 (.bool false) 1 Tryd.underlying35 Tryd.info4 rfl .i64 .i64 s.size (by omega) (by omega)
  go_enter Tryd.func13, Tryd.ntmps13
  go_wp2_with fail
  go_loopw [5, 6] (fun cv i wr => ∃ (a : Nat), a ≤ s.size ∧ i = .int .i64 a ∧ Hid (Cov w.heap.size wr cv s.size (spm T vs a)) ∧ Below w.heap.size w wr) (fun _ i _ => s.size - (intOf i).toNat)
  case atStart => exact ⟨0, Nat.zero_le _, rfl, .inl ⟨rfl, rfl⟩, Below.refl _ _⟩
  case round =>
    obtain ⟨a, ha, rfl, HC, hb⟩ := hrel
    by_cases hlt : a < s.size
    · have HC0 : Hid (Cov w.heap.size wr u5 s.size (spm T vs a ++ spa T a (vs.take 0))) := by
        rw [show spa T a (vs.take 0) = [] from rfl, List.append_nil]; exact HC
      clear HC
      go_wp2_with fail
      go_loopw [5, 7] (fun cv i wq => ∃ (k : Nat), k ≤ n ∧ i = .int .i64 k ∧ Hid (Cov w.heap.size wq cv s.size (spm T vs a ++ spa T a (vs.take k))) ∧ Below w.heap.size w wq) (fun _ i _ => n - (intOf i).toNat)
      case atStart => exact ⟨0, Nat.zero_le _, rfl, HC0, hb⟩
      case round =>
        clear HC0 hb
        rename World => wq
        obtain ⟨k, hk, rfl, HC, hb⟩ := hrel
        by_cases hlt2 : k < n
        · obtain ⟨b, off, hao, hcell⟩ := SRow.at (SRow.later HRW.out hb) k hlt2
          subst hao
          obtain ⟨hx0, hx1⟩ := HV.out k hlt2
          have hkl : k < vs.length := by rw [hlv.out]; exact hlt2
          cases ho : Lib.occAt T (vs.getD k []) a
          · have HC2 : Hid (Cov w.heap.size wq u5 s.size (spm T vs a ++ spa T a (vs.take (k + 1)))) := by rw [spa_miss T a vs k hkl ho]; exact HC
            obtain ⟨x, hx⟩ : ∃ x, x = vs.getD k [] := ⟨_, rfl⟩
            rw [← hx] at hcell hx0 hx1 ho
            clear hx HC
            unfold sc at hcell
            go_wp2_with fail
            clear hcell
            refine (at16 s ⟨x.toArray⟩ a _ ha hs hx1).mono ?_
            rw [show (⟨x.toArray⟩ : ByteArray).data.toList = x from rfl, ← HT.out, ho]
            rintro en1 w1 ⟨rfl, q, rfl⟩
            clear ho
            go_wp2
            go_roundw
            case rel => exact ⟨k + 1, by omega, by go_num, HC2, hb.trans ⟨rfl, rfl, rfl, Nat.le_refl _, fun _ _ => rfl⟩⟩
            case measure => simp [intOf]; omega
          · have hst := spa_hit T a vs k hkl ho
            have hroom : a + (vs.getD k []).length ≤ s.size := by
              rcases Lib.occAt_room ho with h | h
              · rw [HTl.out] at h; exact h
              · rw [h] at hx0; exact absurd rfl hx0
            obtain ⟨x, hx⟩ : ∃ x, x = vs.getD k [] := ⟨_, rfl⟩
            rw [← hx] at hcell hx0 hx1 ho hst hroom
            clear hx
            obtain ⟨Sp, HSp⟩ : ∃ Sp, Hid (Sp = spm T vs a ++ spa T a (vs.take k)) := ⟨_, rfl⟩
            rw [← HSp.out] at HC
            have HH : Hid (Sp ++ [(a, x.length)] = spm T vs a ++ spa T a (vs.take (k + 1))) := by rw [hst, HSp.out, List.append_assoc]; exact rfl
            clear hst HSp
            unfold sc at hcell
            go_wp2_with fail
            clear hcell
            refine (at16 s ⟨x.toArray⟩ a _ ha hs hx1).mono ?_
            rw [show (⟨x.toArray⟩ : ByteArray).data.toList = x from rfl, ← HT.out, ho]
            rintro en1 w1 ⟨rfl, q, rfl⟩
            clear ho
            have hb1 : Below w.heap.size w (wq.drewN q) := hb.trans ⟨rfl, rfl, rfl, Nat.le_refl _, fun _ _ => rfl⟩
            have HC1 : Hid (Cov w.heap.size (wq.drewN q) u5 s.size Sp) := HC
            obtain ⟨w3, hw3⟩ : ∃ w3, w3 = wq.drewN q := ⟨_, rfl⟩
            rw [← hw3] at hb1 HC1 ⊢
            clear hw3 hb HC
            obtain ⟨ao', l, c, rfl, hform⟩ := Cov.form HC1.out
            have HF : Hid _ := hform
            clear HC1 hform
            go_upto_if 31 with fail
            go_cut [5] from 32 to 34 (fun v5 wx => ∃ b, v5 = .slice (some ⟨b, 0, none⟩) s.size s.size ∧ w.heap.size ≤ b ∧ Hid (VBuf b (Fl s.size Sp) wx) ∧ Below w.heap.size w wx)
            case first =>
              as_aux_lemma =>
                rcases HF.out with ⟨rfl, hS⟩ | ⟨b, rfl, rfl, rfl, hb3, hb2⟩
                · subst hS
                  go_wp2
                  go_meet
                  case rel =>
                    refine ⟨w3.heap.size, rfl, hb1.size, ?_, hb1.alloc hb1.size _⟩
                    have h := vbuf_made w3 (.bool false) s.size 4
                    rw [Fl_nil] at h
                    exact h
                · go_wp2
                  go_meet
                  case rel => exact ⟨b, rfl, hb3, hb2, hb1⟩
            case rest =>
              clear HF hb1
              obtain ⟨b5, rfl, hb5, HB5, hb⟩ := hcut
              rename World => w5
              go_wp2_with fail
              have HB0 : Hid (VBuf b5 (Fl s.size (Sp ++ [(a, 0)])) w5) := by rw [Fl_zero]; exact HB5
              clear HB5
              go_loopw [9] (fun j wz => ∃ (jj : Nat), jj ≤ x.length ∧ j = .int .i64 jj ∧ Hid (VBuf b5 (Fl s.size (Sp ++ [(a, jj)])) wz) ∧ Below w.heap.size w wz) (fun j _ => x.length - (intOf j).toNat)
              case atStart => exact ⟨0, Nat.zero_le _, rfl, HB0, hb⟩
              case round =>
                clear HB0 hb
                rename World => wz
                obtain ⟨jj, hjj, rfl, HB, hb⟩ := hrel
                by_cases hlt3 : jj < x.length
                · have hkl3 : a + jj < (Fl s.size (Sp ++ [(a, jj)])).length := by rw [Fl_len]; omega
                  have hold := (HB.out.2 _ hkl3).1
                  have hfro := (HB.out.2 _ hkl3).2
                  rw [List.getElem?_eq_getElem hkl3] at hold
                  have hv2 := VBuf.set HB.out _ hkl3 (.bool true)
                  rw [Fl_set s.size Sp a jj (by omega)] at hv2
                  have hb2 := hb.setCell (p := ⟨b5, a + jj, none⟩) hb5 (.bool true)
                  have HV2 : Hid _ := hv2
                  have HB2 : Hid _ := hb2
                  clear hv2 hb2 HB hb
                  go_wp2
                  go_roundw
                  case rel => exact ⟨jj + 1, by omega, by go_num, HV2, HB2.out⟩
                  case measure => simp [intOf]; omega
                · obtain rfl : jj = x.length := by omega
                  rw [HH.out] at HB
                  have HC2 : Hid (Cov w.heap.size wz (.slice (some ⟨b5, 0, none⟩) s.size s.size) s.size (spm T vs a ++ spa T a (vs.take (k + 1)))) := by
                    refine .inr ⟨?_, b5, rfl, hb5, HB.out⟩
                    rw [← HH.out]; simp
                  clear HB
                  go_wp2
                  go_roundw
                  case rel => exact ⟨k + 1, by omega, by go_num, HC2, hb⟩
                  case measure => simp [intOf]; omega
        · obtain rfl : k = n := by omega
          have HC2 : Hid (Cov w.heap.size wq u5 s.size (spm T vs (a + 1))) := by
            rw [spm_succ]
            have h := HC.out
            rw [List.take_of_length_le (by rw [hlv.out]; exact Nat.le_refl _)] at h
            exact h
          clear HC
          go_wp2
          go_roundw
          case rel => exact ⟨a + 1, by omega, by go_num, HC2, hb⟩
          case measure => simp [intOf]; omega
    · obtain rfl : a = s.size := by omega
      go_wp2
      go_ret
      exact ⟨_, rfl, HC.out, hb⟩
end Go.Proofs.Qxb6601974aDoor
