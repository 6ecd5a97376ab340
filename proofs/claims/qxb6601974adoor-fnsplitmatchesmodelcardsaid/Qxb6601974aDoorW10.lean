import Derived.Test.Qxb6601974aDoorW9
namespace Go.Proofs.Qxb6601974aDoor
open Go.RowKit

def Is (f : Nat → Nat) (k : Nat) : List Value := (List.range k).map fun j => .int .i64 (f j)
theorem Is_succ (f : Nat → Nat) (k : Nat) : Is f k ++ [.int .i64 (f k)] = Is f (k + 1) := by
  unfold Is; rw [List.range_succ]; simp
theorem Is_get (f : Nat → Nat) (k j : Nat) (h : j < k) : (Is f k)[j]? = some (.int .i64 (f j)) := by simp [Is, h]

/-- where piece k ends -/
def en (S : List (List UInt8)) (m k : Nat) : Nat := st S m k + (S.getD k []).length

def Apart (a b : Option Nat) : Prop := a = none ∨ b = none ∨ a ≠ b
theorem Apart.symm {a b : Option Nat} (h : Apart a b) : Apart b a := by
  rcases h with h | h | h
  · exact .inr (.inl h)
  · exact .inl h
  · exact .inr (.inr (Ne.symm h))
theorem Apart.ne {a b : Option Nat} (h : Apart a b) : a = none ∨ a ≠ b := by
  rcases h with h | h | h
  · exact .inl h
  · subst h
    cases a with
    | none => exact .inl rfl
    | some a => exact .inr (by simp)
  · exact .inr h

/-- a push onto one row leaves the other, and they stay apart -/
theorem push_apart {B n n' : Nat} {wr w1 : World} {o : Obj} {v u v' : Value} {ys zs : List Value} (hu : wr.ownsRow B 3 1 u n ys) (ha : Apart v.ownBlock u.ownBlock) (hg : (wr.alloc o).grownBy w1 v.ownBlock)
    (_ho : w1.ownsRow B 3 1 v' n' zs) (hb : v'.ownBlock = v.ownBlock ∨ v'.ownBlock = some (wr.heap.size + 1)) : w1.ownsRow B 3 1 u n ys ∧ Apart v'.ownBlock u.ownBlock := by
  refine ⟨(hu.alloc o).kept hg ha.symm.ne, ?_⟩
  rcases hb with h | h
  · rw [h]; exact ha
  · cases hb2 : u.ownBlock with
    | none => exact .inr (.inl rfl)
    | some g =>
      have := (hu.lt g hb2).2
      refine .inr (.inr ?_)
      rw [h]
      intro e
      have e2 := Option.some.inj e
      omega

theorem push_below {B n : Nat} {w0 wr w1 : World} {o : Obj} {v : Value} {xs : List Value} (hb : Below B w0 wr) (hv : wr.ownsRow B 3 1 v n xs) (hB : B ≤ w0.heap.size) (hg : (wr.alloc o).grownBy w1 v.ownBlock) : Below B w0 w1 :=
  (hb.alloc (by have := hb.size; omega) _).grown hg (by have := hb.size; simp; omega) (fun k h => (hv.lt k h).1)

theorem cell_num (w : World) (x : Int) : (w.alloc (.cells #[.int .i64 x] 3)).cell? ⟨w.heap.size, 0, none⟩ = some (.int .i64 x) := by
  simp

theorem chunk_drop (s : ByteArray) (C : List (List UInt8)) (k f pos : Nat) (h : C.drop k = chunk s f pos) (hf : s.size - pos ≤ f) (hp : pos < s.size) :
    k < C.length ∧ (C.getD k []).length = (Utf8.decode s pos).2 ∧ ∃ f', C.drop (k + 1) = chunk s f' (pos + (Utf8.decode s pos).2) ∧ s.size - (pos + (Utf8.decode s pos).2) ≤ f' := by
  have hne : chunk s f pos ≠ [] := by
    intro e
    have h1 := chunk_flat s f pos hf
    rw [e] at h1
    have h2 := congrArg List.length h1
    rw [List.length_drop, show s.data.toList.length = s.size from rfl] at h2
    simp at h2
    omega
  obtain ⟨f', hf', _, hch⟩ := chunk_cons s f pos hne
  have hk : k < C.length := by
    rw [← h] at hne
    rw [ne_eq, List.drop_eq_nil_iff] at hne
    omega
  rw [h.symm, List.drop_eq_getElem_cons hk] at hch
  obtain ⟨e1, e2⟩ := List.cons.inj hch
  have hw := width_room s pos hp
  refine ⟨hk, ?_, f', e2, by omega⟩
  rw [show (C.getD k []) = C[k] from by simp [hk], e1, List.length_take, List.length_drop, show s.data.toList.length = s.size from rfl]
  omega

theorem chunk_done (s : ByteArray) (C : List (List UInt8)) (k f pos : Nat) (h : C.drop k = chunk s f pos) (hp : ¬ pos < s.size) : C.length ≤ k := by
  have : chunk s f pos = [] := by
    cases f with
    | zero => rfl
    | succ f => unfold chunk; rw [if_neg hp]
  rw [this, List.drop_eq_nil_iff] at h
  exact h

set_option maxHeartbeats 2000000 in
set_option maxRecDepth 100000 in
theorem bounds12_none (s : ByteArray) (w : World) (hs : s.size ≤ 1048576) :
    Calls Tryd.prog 12 #[.string s, .string ⟨#[]⟩] w fun e w' => ∃ vS vE, e = .returned (.tuple #[vS, vE]) ∧ w'.ownsRow w.heap.size 3 1 vS (chunks s).length (Is (st (chunks s) 0) (chunks s).length) ∧
      w'.ownsRow w.heap.size 3 1 vE (chunks s).length (Is (en (chunks s) 0) (chunks s).length) ∧ Below w.heap.size w w' := by
  have hcl : (chunks s).length ≤ s.size := by unfold chunks; rw [chunk_len]; exact Lib.runeCount_le s
  obtain ⟨C, HC⟩ : ∃ C, Hid (C = chunks s) := ⟨_, rfl⟩
  rw [← HC.out] at hcl ⊢
  go_enter Tryd.func12, Tryd.ntmps12
  go_wp2_with fail
  go_loopw [6, 7, 8] (fun vS vE i wr => ∃ (k pos : Nat), k ≤ C.length ∧ pos ≤ s.size ∧ i = .int .i64 pos ∧ Hid (pos = st C 0 k) ∧ Hid (∃ f, C.drop k = chunk s f pos ∧ s.size - pos ≤ f) ∧ wr.ownsRow w.heap.size 3 1 vS k (Is (st C 0) k) ∧
      wr.ownsRow w.heap.size 3 1 vE k (Is (en C 0) k) ∧ Hid (Apart vS.ownBlock vE.ownBlock) ∧ Below w.heap.size w wr) (fun _ _ i _ => s.size - (intOf i).toNat)
  case atStart => exact ⟨0, 0, Nat.zero_le _, Nat.zero_le _, rfl, (st_zero _ _).symm, ⟨s.size, HC.out, by omega⟩, World.ownsRow_nil _ _ _ _, World.ownsRow_nil _ _ _ _, .inl rfl, Below.refl _ _⟩
  case round =>
    obtain ⟨k, pos, hk, hp, rfl, HP, HF, hS, hE, HA, hb⟩ := hrel
    by_cases hlt : pos < s.size
    · obtain ⟨f, hf1, hf2⟩ := HF.out
      obtain ⟨hkl, hlen, f', hf3, hf4⟩ := chunk_drop s C k f pos hf1 hf2 hlt
      obtain ⟨hw1, hw2⟩ := width_room s pos hlt
      obtain ⟨wd, Hwd⟩ : ∃ wd, Hid (wd = (Utf8.decode s pos).2) := ⟨_, rfl⟩
      rw [← Hwd.out] at hlen hf3 hf4 hw1 hw2
      have HF2 : Hid (∃ f, C.drop (k + 1) = chunk s f (pos + wd) ∧ s.size - (pos + wd) ≤ f) := ⟨f', hf3, hf4⟩
      have HP2 : Hid (pos + wd = st C 0 (k + 1)) := by rw [st_succ C 0 k hkl, ← HP.out, hlen]; exact rfl
      have HE1 : Hid ((pos : Int) + wd = ((en C 0 k : Nat) : Int)) := by unfold en; rw [← HP.out, hlen]; simp [Hid]
      clear hf1 hf2 hf3 hf4 hlen HF
      go_wp2_with fail
      refine (runeLen22 s pos wr hlt hs).mono ?_
      rintro en1 w1 ⟨rfl, rfl⟩
      rw [← Hwd.out]
      clear Hwd
      go_wp2_with (at_builtin; refine wpList_push _ rfl _ _ rfl w.heap.size _ k _ rfl (hS.alloc _) ⟨w1.heap.size, 0, none⟩ 1 pos rfl (cell_num _ _) (by omega) (by have := hb.size; simp; omega) ?_)
      intro vS1 w2 hS2 hg2 hk2
      obtain ⟨hE2, hA2⟩ := push_apart hE HA.out hg2 hS2 hk2
      have hb2 := push_below hb hS (Nat.le_refl _) hg2
      rw [HP.out, Is_succ] at hS2
      have HA2 : Hid (Apart vS1.ownBlock u7.ownBlock) := hA2
      clear hS hE HA hg2 hk2 hb hA2
      go_wp2_with (at_builtin; refine wpList_push _ rfl _ _ rfl w.heap.size _ k _ rfl (hE2.alloc _) ⟨w2.heap.size, 0, none⟩ 1 ((pos : Int) + wd) rfl (cell_num _ _) (by omega) (by have := hb2.size; simp; omega) ?_)
      intro vE1 w3 hE3 hg3 hk3
      obtain ⟨hS3, hA3⟩ := push_apart hS2 HA2.out.symm hg3 hE3 hk3
      have hb3 := push_below hb2 hE2 (Nat.le_refl _) hg3
      rw [HE1.out, Is_succ] at hE3
      have HA3 : Hid (Apart vS1.ownBlock vE1.ownBlock) := hA3.symm
      clear hS2 hE2 HA2 hg3 hk3 hb2 hA3
      go_wp2
      go_roundw
      case rel => exact ⟨k + 1, pos + wd, hkl, hw2, by go_num, HP2, HF2, hS3, hE3, HA3, hb3⟩
      case measure => simp [intOf]; omega
    · obtain ⟨f, hf1, _⟩ := HF.out
      have hkL := chunk_done s C k f pos hf1 hlt
      obtain rfl : k = C.length := by omega
      clear HF hf1
      go_wp2
      exact bodyPost_ret (v := .tuple #[u6, u7]) (by simp [results, Tryd.results12, go_sem]) rfl ⟨_, _, rfl, hS, hE, hb⟩

theorem split_drop_hit (t sep : List UInt8) (hne : sep ≠ []) (S : List (List UInt8)) (k a i : Nat) (h : S.drop k = Lib.split (t.drop a) sep) (ha : a ≤ i) (ho : Lib.occAt t sep i = true) (hn : ∀ j, a + j < i → Lib.occAt t sep (a + j) = false) :
    k < S.length ∧ (S.getD k []).length = i - a ∧ S.drop (k + 1) = Lib.split (t.drop (i + sep.length)) sep ∧ i + sep.length ≤ t.length := by
  have hroom : i + sep.length ≤ t.length := by
    rcases Lib.occAt_room ho with h | h
    · exact h
    · exact absurd h hne
  have hix : Lib.index (t.drop a) sep = ((i - a : Nat) : Int) := by
    refine Lib.index_first (by rw [List.length_drop]; omega) ?_ (fun j hj => ?_)
    · rw [occ_drop, show a + (i - a) = i from by omega]; exact ho
    · rw [occ_drop]; exact hn j (by omega)
  rw [split_hit hne hix] at h
  have hk : k < S.length := by
    rcases Nat.lt_or_ge k S.length with h1 | h1
    · exact h1
    · rw [List.drop_eq_nil_of_le h1] at h; cases h
  rw [List.drop_eq_getElem_cons hk] at h
  obtain ⟨e1, e2⟩ := List.cons.inj h
  refine ⟨hk, ?_, ?_, hroom⟩
  · rw [show (S.getD k []) = S[k] from by simp [hk], e1, List.length_take, List.length_drop]; omega
  · rw [e2, List.drop_drop]; congr 2; omega

theorem split_drop_end (t sep : List UInt8) (hne : sep ≠ []) (S : List (List UInt8)) (k a i : Nat) (h : S.drop k = Lib.split (t.drop a) sep) (hi : ¬ i + sep.length ≤ t.length) (hn : ∀ j, a + j < i → Lib.occAt t sep (a + j) = false) :
    S.length = k + 1 ∧ (S.getD k []).length = t.length - a := by
  have hix : Lib.index (t.drop a) sep = -1 := by
    refine Lib.index_none (fun j _ => ?_)
    rw [occ_drop]
    by_cases hj : a + j < i
    · exact hn j hj
    · cases e : Lib.occAt t sep (a + j) with
      | false => rfl
      | true =>
        rcases Lib.occAt_room e with h | h
        · omega
        · exact absurd h hne
  rw [split_miss hix] at h
  have hl := congrArg List.length h
  rw [List.length_drop] at hl
  simp at hl
  have hk : k < S.length := by omega
  rw [List.drop_eq_getElem_cons hk] at h
  obtain ⟨e1, _⟩ := List.cons.inj h
  refine ⟨by omega, ?_⟩
  rw [show (S.getD k []) = S[k] from by simp [hk], e1, List.length_drop]

set_option maxHeartbeats 2000000 in
set_option maxRecDepth 100000 in
theorem bounds12_some (s sep : ByteArray) (w : World) (hs : s.size ≤ 1048576) (hp0 : sep.size ≠ 0) (hsp : sep.size ≤ 1048576) :
    Calls Tryd.prog 12 #[.string s, .string sep] w fun e w' => ∃ vS vE, e = .returned (.tuple #[vS, vE]) ∧ w'.ownsRow w.heap.size 3 1 vS (pcs s sep).length (Is (st (pcs s sep) sep.size) (pcs s sep).length) ∧
      w'.ownsRow w.heap.size 3 1 vE (pcs s sep).length (Is (en (pcs s sep) sep.size) (pcs s sep).length) ∧ Below w.heap.size w w' := by
  have hSl := pcs_len s sep
  have hS0 : pcs s sep = Lib.split s.data.toList sep.data.toList := by unfold pcs; rw [if_neg hp0]
  obtain ⟨S, HS⟩ : ∃ S, Hid (S = pcs s sep) := ⟨_, rfl⟩
  rw [← HS.out] at hSl hS0 ⊢
  obtain ⟨T, HT⟩ : ∃ T, Hid (T = s.data.toList) := ⟨_, rfl⟩
  have HTl : Hid (T.length = s.size) := by rw [HT.out]; exact rfl
  have HS0 : Hid (S = Lib.split T sep.data.toList) := by rw [HT.out]; exact hS0
  have hne : sep.data.toList ≠ [] := by intro e; apply hp0; exact congrArg List.length e
  have HNE : Hid _ := hne
  have hsl : Hid (sep.data.toList.length = sep.size) := rfl
  have hpB : ((sep.size : Int) == 0) = false := beq_eq_false_iff_ne.2 (by omega)
  have hp1 : 1 ≤ sep.size := by omega
  clear hS0 hne hp0
  go_enter Tryd.func12, Tryd.ntmps12
  go_wp2_with fail
  go_loopw [6, 7, 10, 11] (fun vS vE x y wr => ∃ (k a i : Nat), k ≤ S.length ∧ a ≤ i ∧ i ≤ s.size ∧ x = .int .i64 a ∧ y = .int .i64 i ∧ Hid (a = st S sep.size k) ∧ Hid (S.drop k = Lib.split (T.drop a) sep.data.toList ∧ ∀ j, a + j < i → Lib.occAt T sep.data.toList (a + j) = false) ∧
      wr.ownsRow w.heap.size 3 1 vS k (Is (st S sep.size) k) ∧ wr.ownsRow w.heap.size 3 1 vE k (Is (en S sep.size) k) ∧ Hid (Apart vS.ownBlock vE.ownBlock) ∧ Below w.heap.size w wr) (fun _ _ _ y _ => s.size - (intOf y).toNat)
  case atStart => exact ⟨0, 0, 0, Nat.zero_le _, Nat.le_refl _, Nat.zero_le _, rfl, rfl, (st_zero _ _).symm, ⟨HS0.out, fun j h => absurd h (Nat.not_lt_zero _)⟩, World.ownsRow_nil _ _ _ _, World.ownsRow_nil _ _ _ _, .inl rfl, Below.refl _ _⟩
  case round =>
    obtain ⟨k, a, i, hk, ha, hi, rfl, rfl, HP, HF, hS, hE, HA, hb⟩ := hrel
    by_cases hlt : i + sep.size ≤ s.size
    · cases ho : Lib.occAt s.data.toList sep.data.toList i
      · have HF2 : Hid (S.drop k = Lib.split (T.drop a) sep.data.toList ∧ ∀ j, a + j < i + 1 → Lib.occAt T sep.data.toList (a + j) = false) := by
          refine ⟨HF.out.1, fun j hj => ?_⟩
          by_cases e : a + j = i
          · rw [e, HT.out]; exact ho
          · exact HF.out.2 j (by omega)
        clear HF
        go_wp2_with fail
        refine (at16 s sep i wr hi hs hsp).mono ?_
        rw [ho]
        rintro en1 w1 ⟨rfl, q, rfl⟩
        clear ho
        go_wp2
        go_roundw
        case rel => exact ⟨k, a, i + 1, hk, by omega, by omega, rfl, by go_num, HP, HF2, hS, hE, HA, hb.trans ⟨rfl, rfl, rfl, Nat.le_refl _, fun _ _ => rfl⟩⟩
        case measure => simp [intOf]; omega
      · obtain ⟨hkl, hlen, hdr, _⟩ := split_drop_hit T _ HNE.out S k a i HF.out.1 ha (by rw [HT.out]; exact ho) HF.out.2
        rw [hsl.out] at hdr
        have HF2 : Hid (S.drop (k + 1) = Lib.split (T.drop (i + sep.size)) sep.data.toList ∧ ∀ j, i + sep.size + j < i + sep.size → Lib.occAt T sep.data.toList (i + sep.size + j) = false) := ⟨hdr, fun j hj => absurd hj (by omega)⟩
        have HP2 : Hid (i + sep.size = st S sep.size (k + 1)) := by rw [st_succ S _ k hkl, ← HP.out, hlen]; show _ = _; omega
        have HE1 : Hid ((i : Int) = ((en S sep.size k : Nat) : Int)) := by unfold en; rw [← HP.out, hlen]; show _ = _; omega
        clear hlen hdr HF
        go_wp2_with fail
        refine (at16 s sep i wr hi hs hsp).mono ?_
        rw [ho]
        rintro en1 w1 ⟨rfl, q, rfl⟩
        clear ho
        have hb1 : Below w.heap.size w (wr.drewN q) := hb.trans ⟨rfl, rfl, rfl, Nat.le_refl _, fun _ _ => rfl⟩
        have hS1 : (wr.drewN q).ownsRow w.heap.size 3 1 u6 k (Is (st S sep.size) k) := hS
        have hE1 : (wr.drewN q).ownsRow w.heap.size 3 1 u7 k (Is (en S sep.size) k) := hE
        obtain ⟨w1, hw1⟩ : ∃ w1, w1 = wr.drewN q := ⟨_, rfl⟩
        rw [← hw1] at hb1 hS1 hE1 ⊢
        clear hw1 hS hE hb
        go_wp2_with (at_builtin; refine wpList_push _ rfl _ _ rfl w.heap.size _ k _ rfl (hS1.alloc _) ⟨w1.heap.size, 0, none⟩ 1 a rfl (cell_num _ _) (by omega) (by have := hb1.size; simp; omega) ?_)
        intro vS1 w2 hS2 hg2 hk2
        obtain ⟨hE2, hA2⟩ := push_apart hE1 HA.out hg2 hS2 hk2
        have hb2 := push_below hb1 hS1 (Nat.le_refl _) hg2
        rw [HP.out, Is_succ] at hS2
        have HA2 : Hid (Apart vS1.ownBlock u7.ownBlock) := hA2
        clear hS1 hE1 HA hg2 hk2 hb1 hA2
        go_wp2_with (at_builtin; refine wpList_push _ rfl _ _ rfl w.heap.size _ k _ rfl (hE2.alloc _) ⟨w2.heap.size, 0, none⟩ 1 i rfl (cell_num _ _) (by omega) (by have := hb2.size; simp; omega) ?_)
        intro vE1 w3 hE3 hg3 hk3
        obtain ⟨hS3, hA3⟩ := push_apart hS2 HA2.out.symm hg3 hE3 hk3
        have hb3 := push_below hb2 hE2 (Nat.le_refl _) hg3
        rw [HE1.out, Is_succ] at hE3
        have HA3 : Hid (Apart vS1.ownBlock vE1.ownBlock) := hA3.symm
        clear hS2 hE2 HA2 hg3 hk3 hb2 hA3
        go_wp2
        go_roundw
        case rel => exact ⟨k + 1, i + sep.size, i + sep.size, hkl, Nat.le_refl _, hlt, by go_num, by go_num, HP2, HF2, hS3, hE3, HA3, hb3⟩
        case measure => simp [intOf]; omega
    · obtain ⟨hkl, hlen⟩ := split_drop_end T _ HNE.out S k a i HF.out.1 (by rw [HTl.out, hsl.out]; exact hlt) HF.out.2
      have HE1 : Hid ((s.size : Int) = ((en S sep.size k : Nat) : Int)) := by unfold en; rw [← HP.out, hlen, HTl.out]; show _ = _; omega
      have hkS : k ≤ 1048577 := by omega
      clear hlen HF
      go_wp2_with (at_builtin; refine wpList_push _ rfl _ _ rfl w.heap.size _ k _ rfl (hS.alloc _) ⟨wr.heap.size, 0, none⟩ 1 a rfl (cell_num _ _) hkS (by have := hb.size; simp; omega) ?_)
      intro vS1 w2 hS2 hg2 hk2
      obtain ⟨hE2, hA2⟩ := push_apart hE HA.out hg2 hS2 hk2
      have hb2 := push_below hb hS (Nat.le_refl _) hg2
      rw [HP.out, Is_succ] at hS2
      have HA2 : Hid (Apart vS1.ownBlock u7.ownBlock) := hA2
      clear hS hE HA hg2 hk2 hb hA2
      go_wp2_with (at_builtin; refine wpList_push _ rfl _ _ rfl w.heap.size _ k _ rfl (hE2.alloc _) ⟨w2.heap.size, 0, none⟩ 1 s.size rfl (cell_num _ _) hkS (by have := hb2.size; simp; omega) ?_)
      intro vE1 w3 hE3 hg3 hk3
      obtain ⟨hS3, hA3⟩ := push_apart hS2 HA2.out.symm hg3 hE3 hk3
      have hb3 := push_below hb2 hE2 (Nat.le_refl _) hg3
      rw [HE1.out, Is_succ] at hE3
      clear hS2 hE2 HA2 hg3 hk3 hb2 hA3
      go_wp2
      exact bodyPost_ret (v := .tuple #[vS1, vE1]) (by simp [results, Tryd.results12, go_sem]) rfl ⟨_, _, rfl, by rw [hkl]; exact hS3, by rw [hkl]; exact hE3, hb3⟩

theorem bounds12 (s sep : ByteArray) (w : World) (hs : s.size ≤ 1048576) (hsp : sep.size ≤ 1048576) :
    Calls Tryd.prog 12 #[.string s, .string sep] w fun e w' => ∃ vS vE, e = .returned (.tuple #[vS, vE]) ∧ w'.ownsRow w.heap.size 3 1 vS (pcs s sep).length (Is (st (pcs s sep) sep.size) (pcs s sep).length) ∧
      w'.ownsRow w.heap.size 3 1 vE (pcs s sep).length (Is (en (pcs s sep) sep.size) (pcs s sep).length) ∧ Below w.heap.size w w' := by
  by_cases h : sep.size = 0
  · have : sep = ⟨#[]⟩ := ba_ext (by rw [show sep.data.toList = [] from List.eq_nil_of_length_eq_zero h])
    subst this
    exact bounds12_none s w hs
  · exact bounds12_some s sep w hs h hsp
end Go.Proofs.Qxb6601974aDoor
