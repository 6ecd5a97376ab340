import Derived.Test.Qxb6601974aDoorW8
namespace Go.Proofs.Qxb6601974aDoor
open Go.RowKit

theorem Tryd.info3 : (Tryd.prog.info? 3).map (fun i => (i.zero, i.size, i.bytes)) = some (some (.int .i64 0), 1, 8) := by kernel_rfl

/-- one number more at the end of a row of numbers: where the new row lies is told too -/
theorem run_push (W : World) (base : Nat) (ty : TypeId) (v : Value) (n : Nat) (xs : List Value) (hown : W.ownsRow base 3 1 v n xs) (a : Addr) (c : Nat) (x : Int) (hx : W.cell? a = some (.int .i64 x)) (hn : n ≤ 1048577) (hb : base ≤ W.heap.size) :
    ∃ v' w', (Builtin.append_ #[32, 32] ty #[v, .slice (some a) 1 c]).run Tryd.prog W = .ok v' w' ∧ w'.ownsRow base 3 1 v' (n + 1) (xs ++ [.int .i64 x]) ∧ W.grownBy w' v.ownBlock ∧
      (v'.ownBlock = v.ownBlock ∨ v'.ownBlock = some W.heap.size) := by
  obtain ⟨i0, hi, hz0, hz1, hz2⟩ := info_parts Tryd.info3
  have hnews : ∀ j u, [Value.int .i64 x][j]? = some u → W.cell? (a.add j) = some u := by
    intro j u hj
    cases j with
    | zero => simp at hj; subst hj; simpa [Addr.add] using hx
    | succ j => simp at hj
  have h1 : ∀ u ∈ [Value.int .i64 x], u.oneCell' = true := by intro u hu; simp at hu; subst hu; rfl
  have hm : n + 1 ≤ maxLen := by unfold maxLen; omega
  obtain ⟨v', w', hrun, r1, r2, _⟩ := run_append_own (P := Tryd.prog) W base 32 ty 3 i0 (.int .i64 0) 1 8 Tryd.underlying32 hi hz0 hz1 hz2 rfl (by decide) v n xs hown a 1 c [.int .i64 x] rfl hnews h1 hm (by omega) hb
  refine ⟨v', w', hrun, r1, r2, ?_⟩
  have hl : [Value.int .i64 x].length = 1 * i0.size := by rw [hz1]; rfl
  rcases hown.2 with ⟨rfl, rfl⟩ | ⟨g, cap, cur, rfl, hbg, hg, hnc, hcm, hcs, htake⟩
  · have hr := run_append_nil (P := Tryd.prog) W 32 ty 3 i0 (.int .i64 0) Tryd.underlying32 hi hz0 a 1 c [.int .i64 x] hl hnews (by decide) (by decide) (by rw [hz2]; decide)
    rw [hr] at hrun
    injection hrun with e1 e2
    subst e1
    exact .inr rfl
  · by_cases hroom : n + 1 ≤ cap
    · have hr := run_append_room (P := Tryd.prog) W 32 ty 3 i0 Tryd.underlying32 hi g n cap cur hg a 1 c [.int .i64 x] hl hnews h1 hroom (by rw [hz1, hcs]; simp; omega)
      rw [hr] at hrun
      injection hrun with e1 e2
      subst e1
      exact .inl rfl
    · have hr := run_append_grow (P := Tryd.prog) W 32 ty 3 i0 (.int .i64 0) Tryd.underlying32 hi hz0 ⟨g, 0, none⟩ n cap xs (by rw [hz1]; exact hown.1) (hown.cells (g := g) rfl) a 1 c [.int .i64 x] hl hnews (by omega) (by omega) (growslice_fits (by omega) (by rw [hz2]; omega))
      rw [hr] at hrun
      injection hrun with e1 e2
      subst e1
      exact .inr rfl

theorem wpList_push {ops : Array Oper} {rest : List Oper} {o : Oper} {a : Act} {Q : Exit → Act → World → Prop} (W : World) (hgd : o.guard = none) (s y : Operand)
    (ho : o.op = .call { callee := .builtin .append, args := #[s, y], argTypes := #[32, 32] })
    (base : Nat) (v : Value) (n : Nat) (xs : List Value) (hs : a.eval s = v) (hown : W.ownsRow base 3 1 v n xs) (ad : Addr) (c : Nat) (x : Int) (hy : a.eval y = .slice (some ad) 1 c) (hx : W.cell? ad = some (.int .i64 x)) (hn : n ≤ 1048577) (hb : base ≤ W.heap.size)
    (h : ∀ v' w', w'.ownsRow base 3 1 v' (n + 1) (xs ++ [.int .i64 x]) → W.grownBy w' v.ownBlock → (v'.ownBlock = v.ownBlock ∨ v'.ownBlock = some W.heap.size) → wpList Tryd.prog ops Q rest (a.put o.dst v') w') : wpList Tryd.prog ops Q (o :: rest) a W := by
  refine wpList_plain hgd fun K hK => ?_
  obtain ⟨v', w', hrun, r1, r2, r3⟩ := run_push W base o.type v n xs hown ad c x hx hn hb
  unfold Oper.wp
  simp [execOp, ho, resolve, invoke, builtin, hs, hy, hrun, Result.andThen]
  exact hK _ _ (h v' w' r1 r2 r3)

def rl (n b1 b2 b3 sz lo hi : Nat) : Nat :=
  if n < sz then 1 else if b1 < lo ∨ hi < b1 then 1 else if sz ≤ 2 then 2 else if b2 < 128 ∨ 191 < b2 then 1 else if sz ≤ 3 then 3 else if b3 < 128 ∨ 191 < b3 then 1 else 4

theorem slow_rl (n b0 b1 b2 b3 sz lo hi : Nat) : (Lib.slowN n b0 b1 b2 b3 sz lo hi).2 = rl n b1 b2 b3 sz lo hi := by
  unfold Lib.slowN rl
  repeat' split
  all_goals rfl

theorem wd_one (n b0 b1 b2 b3 : Nat) (h : b0 < 194 ∨ 245 ≤ b0) (h2 : b0 < 256) : (Lib.decodeN n b0 b1 b2 b3).2 = 1 := by
  unfold Lib.decodeN
  repeat' split
  all_goals first | rfl | (exfalso; omega)

def cls (x sz lo hi : Nat) : Prop :=
  (194 ≤ x ∧ x ≤ 223 ∧ sz = 2 ∧ lo = 128 ∧ hi = 191) ∨ (x = 224 ∧ sz = 3 ∧ lo = 160 ∧ hi = 191) ∨ (225 ≤ x ∧ x ≤ 236 ∧ sz = 3 ∧ lo = 128 ∧ hi = 191) ∨ (x = 237 ∧ sz = 3 ∧ lo = 128 ∧ hi = 159) ∨
  (238 ≤ x ∧ x ≤ 239 ∧ sz = 3 ∧ lo = 128 ∧ hi = 191) ∨ (x = 240 ∧ sz = 4 ∧ lo = 144 ∧ hi = 191) ∨ (241 ≤ x ∧ x ≤ 243 ∧ sz = 4 ∧ lo = 128 ∧ hi = 191) ∨ (x = 244 ∧ sz = 4 ∧ lo = 128 ∧ hi = 143)

theorem cls_of (x : Nat) (h1 : 194 ≤ x) (h2 : x < 245) : ∃ sz lo hi, cls x sz lo hi := by
  unfold cls
  by_cases c1 : x ≤ 223
  · exact ⟨2, 128, 191, .inl ⟨h1, c1, rfl, rfl, rfl⟩⟩
  by_cases c2 : x = 224
  · exact ⟨3, 160, 191, .inr (.inl ⟨c2, rfl, rfl, rfl⟩)⟩
  by_cases c3 : x ≤ 236
  · exact ⟨3, 128, 191, .inr (.inr (.inl ⟨by omega, c3, rfl, rfl, rfl⟩))⟩
  by_cases c4 : x = 237
  · exact ⟨3, 128, 159, .inr (.inr (.inr (.inl ⟨c4, rfl, rfl, rfl⟩)))⟩
  by_cases c5 : x ≤ 239
  · exact ⟨3, 128, 191, .inr (.inr (.inr (.inr (.inl ⟨by omega, c5, rfl, rfl, rfl⟩))))⟩
  by_cases c6 : x = 240
  · exact ⟨4, 144, 191, .inr (.inr (.inr (.inr (.inr (.inl ⟨c6, rfl, rfl, rfl⟩)))))⟩
  by_cases c7 : x ≤ 243
  · exact ⟨4, 128, 191, .inr (.inr (.inr (.inr (.inr (.inr (.inl ⟨by omega, c7, rfl, rfl, rfl⟩))))))⟩
  · exact ⟨4, 128, 143, .inr (.inr (.inr (.inr (.inr (.inr (.inr ⟨by omega, rfl, rfl, rfl⟩))))))⟩

theorem cls_wd (n x b1 b2 b3 sz lo hi : Nat) (hn : 1 ≤ n) (h1 : b1 < 256) (h2 : b2 < 256) (h3 : b3 < 256) (h : cls x sz lo hi) : (Lib.decodeN n x b1 b2 b3).2 = rl n b1 b2 b3 sz lo hi := by
  rw [← slow_rl n x]
  rcases h with ⟨c1, c2, rfl, rfl, rfl⟩ | ⟨c1, rfl, rfl, rfl⟩ | ⟨c1, c2, rfl, rfl, rfl⟩ | ⟨c1, rfl, rfl, rfl⟩ | ⟨c1, c2, rfl, rfl, rfl⟩ | ⟨c1, rfl, rfl, rfl⟩ | ⟨c1, c2, rfl, rfl, rfl⟩ | ⟨c1, rfl, rfl, rfl⟩
  · rw [Lib.slow_C2 n x b1 b2 b3 hn h1 h2 h3 (by omega)]
  · rw [Lib.slow_E0 n x b1 b2 b3 hn h1 h2 h3 (by omega)]
  · rw [Lib.slow_E1 n x b1 b2 b3 hn h1 h2 h3 (by omega)]
  · rw [Lib.slow_ED n x b1 b2 b3 hn h1 h2 h3 (by omega)]
  · rw [Lib.slow_E1 n x b1 b2 b3 hn h1 h2 h3 (by omega)]
  · rw [Lib.slow_F0 n x b1 b2 b3 hn h1 h2 h3 (by omega)]
  · rw [Lib.slow_F1 n x b1 b2 b3 hn h1 h2 h3 (by omega)]
  · rw [Lib.slow_F4 n x b1 b2 b3 hn h1 h2 h3 (by omega)]

theorem cls_bd {x sz lo hi : Nat} (h : cls x sz lo hi) : 2 ≤ sz ∧ sz ≤ 4 ∧ lo ≤ 255 ∧ hi ≤ 255 := by
  unfold cls at h
  omega

theorem rl_short (n b1 b2 b3 sz lo hi : Nat) (h : n < sz) : rl n b1 b2 b3 sz lo hi = 1 := by unfold rl; rw [if_pos h]
theorem rl_first (n b1 b2 b3 sz lo hi : Nat) (h : b1 < lo ∨ hi < b1) : rl n b1 b2 b3 sz lo hi = 1 := by
  unfold rl
  split
  · rfl
  · first | rfl | rw [if_pos h]
theorem rl_bad (f : Nat → Nat) (n sz lo hi j : Nat) (hj1 : 2 ≤ j) (hj2 : j < sz) (hsz : sz ≤ 4) (h : f j < 128 ∨ 191 < f j) : rl n (f 1) (f 2) (f 3) sz lo hi = 1 := by
  unfold rl
  repeat' split
  all_goals first | rfl | (exfalso; omega) | skip
  all_goals (
    exfalso
    rcases (by omega : j = 2 ∨ j = 3) with rfl | rfl <;> omega)
theorem rl_ok (f : Nat → Nat) (n sz lo hi : Nat) (h0 : ¬ n < sz) (h1 : ¬ (f 1 < lo ∨ hi < f 1)) (hs1 : 2 ≤ sz) (hs2 : sz ≤ 4) (h : ∀ j, 2 ≤ j → j < sz → ¬ (f j < 128 ∨ 191 < f j)) : rl n (f 1) (f 2) (f 3) sz lo hi = sz := by
  have g2 := h 2 (by omega)
  have g3 := h 3 (by omega)
  unfold rl
  rw [if_neg h0, if_neg h1]
  repeat' split
  all_goals omega

theorem getx (s : ByteArray) (i : Nat) (h : i < s.size) : s.get! i = s[i] := by
  rw [← Lib.getD_get!' s i, List.getD_eq_getElem?_getD, ba_get s i h]
  rfl

theorem u8b (c : UInt8) : c.toNat < 256 := c.toNat_lt

set_option maxHeartbeats 1000000 in
set_option maxRecDepth 100000 in
theorem runeLen22 (s : ByteArray) (p : Nat) (w : World) (hp : p < s.size) (hs : s.size ≤ 1048576) :
    Calls Tryd.prog 22 #[.string s, .int .i64 p] w fun e w' => e = .returned (.int .i64 (Utf8.decode s p).2) ∧ w' = w := by
  obtain ⟨f, Hf⟩ : ∃ f : Nat → Nat, Hid (f = fun i => (s.get! (p + i)).toNat) := ⟨_, rfl⟩
  have hfi : Hid (∀ i (h : p + i < s.size), f i = (s[p + i]).toNat) := by
    intro i h
    rw [Hf.out, ← getx s (p + i) h]
  have HB : Hid (∀ i, f i < 256) := by intro i; rw [Hf.out]; exact u8b _
  have HD : Hid ((Utf8.decode s p).2 = (Lib.decodeN (s.size - p) (f 0) (f 1) (f 2) (f 3)).2) := by
    rw [Lib.decode_at, Hf.out]; exact rfl
  obtain ⟨r, HR⟩ : ∃ r, Hid (r = (Utf8.decode s p).2) := ⟨_, rfl⟩
  rw [← HR.out] at HD ⊢
  have hf0 : f 0 = (s[p]).toNat := hfi.out 0 hp
  obtain ⟨x, hx⟩ : ∃ x, x = (s[p]).toNat := ⟨_, rfl⟩
  rw [← hx] at hf0
  rw [hf0] at HD
  have hx256 : x < 256 := by rw [← hf0]; exact HB.out 0
  have hix := ix_str s p hp p rfl
  rw [← hx] at hix
  clear hf0 hx Hf
  by_cases hlow : x < 194 ∨ 245 ≤ x
  · have hr : r = 1 := by rw [HD.out]; exact wd_one _ _ _ _ _ hlow hx256
    subst hr
    have e1 : ((x : Int) == 224) = false := beq_eq_false_iff_ne.2 (by omega)
    have e2 : ((x : Int) == 237) = false := beq_eq_false_iff_ne.2 (by omega)
    have e3 : ((x : Int) == 240) = false := beq_eq_false_iff_ne.2 (by omega)
    have e4 : ((x : Int) == 244) = false := beq_eq_false_iff_ne.2 (by omega)
    by_cases h128 : x < 128
    · go_enter Tryd.func22, Tryd.ntmps22
      go_wp2
      go_ret
      exact ⟨rfl, rfl⟩
    · rcases hlow with hlow | hlow
      · go_enter Tryd.func22, Tryd.ntmps22
        go_wp2
        go_ret
        exact ⟨rfl, rfl⟩
      · go_enter Tryd.func22, Tryd.ntmps22
        go_wp2
        go_ret
        exact ⟨rfl, rfl⟩
  · obtain ⟨sz, lo, hi, hc⟩ := cls_of x (by omega) (by omega)
    obtain ⟨hs1, hs2, hlo, hhi⟩ := cls_bd hc
    have HW : Hid (r = rl (s.size - p) (f 1) (f 2) (f 3) sz lo hi) := by
      rw [HD.out]; exact cls_wd _ _ _ _ _ _ _ _ (by omega) (HB.out 1) (HB.out 2) (HB.out 3) hc
    have HC : Hid (cls x sz lo hi) := hc
    clear hc HD HR
    have h194 : 194 ≤ x := by omega
    clear hlow
    go_enter Tryd.func22, Tryd.ntmps22
    go_upto_block 0 with fail
    go_cut [6, 7, 8] from 16 to 55 (fun v6 v7 v8 wx => v6 = .int .i64 ((sz : Int) - 1) ∧ v7 = .int .u8 lo ∧ v8 = .int .u8 hi ∧ w = wx)
    case first =>
      as_aux_lemma =>
        rcases HC.out with ⟨c1, c2, rfl, rfl, rfl⟩ | ⟨c1, rfl, rfl, rfl⟩ | ⟨c1, c2, rfl, rfl, rfl⟩ | ⟨c1, rfl, rfl, rfl⟩ | ⟨c1, c2, rfl, rfl, rfl⟩ | ⟨c1, rfl, rfl, rfl⟩ | ⟨c1, c2, rfl, rfl, rfl⟩ | ⟨c1, rfl, rfl, rfl⟩
        all_goals try subst c1
        all_goals try (have e1 : ((x : Int) == 224) = false := beq_eq_false_iff_ne.2 (by omega))
        all_goals try (have e2 : ((x : Int) == 237) = false := beq_eq_false_iff_ne.2 (by omega))
        all_goals try (have e3 : ((x : Int) == 240) = false := beq_eq_false_iff_ne.2 (by omega))
        all_goals (
          go_wp2
          go_meet
          case rel => exact ⟨rfl, rfl, rfl, rfl⟩)
    case rest =>
      obtain ⟨rfl, rfl, rfl, rfl⟩ := hcut
      clear HC
      by_cases hsh : s.size - p < sz
      · have hr : r = 1 := by rw [HW.out]; exact rl_short _ _ _ _ _ _ _ hsh
        subst hr
        go_wp2
        go_ret
        exact ⟨rfl, rfl⟩
      · have hp1 : p + 1 < s.size := by omega
        have hf1 := hfi.out 1 hp1
        obtain ⟨y, hy⟩ : ∃ y, y = (s[p + 1]).toNat := ⟨_, rfl⟩
        have hix1 := ix_str s (p + 1) hp1 ((p : Int) + 1) (by omega)
        rw [← hy] at hf1 hix1
        by_cases hb1 : y < lo
        · have hr : r = 1 := by rw [HW.out]; exact rl_first _ _ _ _ _ _ _ (by omega)
          subst hr
          go_wp2
          go_ret
          exact ⟨rfl, rfl⟩
        · by_cases hb2 : hi < y
          · have hr : r = 1 := by rw [HW.out]; exact rl_first _ _ _ _ _ _ _ (by omega)
            subst hr
            go_wp2
            go_ret
            exact ⟨rfl, rfl⟩
          · clear hy
            go_wp2_with fail
            simp only [decide_eq_false (by omega : ¬ (s.size : Int) ≤ (p : Int) + ((sz : Int) - 1))]
            go_loop [10] (fun i => ∃ (j : Nat), 2 ≤ j ∧ j ≤ sz ∧ i = .int .i64 j ∧ Hid (∀ k, 2 ≤ k → k < j → ¬ (f k < 128 ∨ 191 < f k))) (fun i => sz - (intOf i).toNat)
            case atStart => exact ⟨2, Nat.le_refl _, hs1, rfl, fun k h1 h2 => absurd h2 (by omega)⟩
            case round =>
              obtain ⟨j, hj1, hj2, rfl, HS⟩ := hrel
              by_cases hlt : j < sz
              · have hpj : p + j < s.size := by omega
                have hfj := hfi.out j hpj
                obtain ⟨z, hz⟩ : ∃ z, z = (s[p + j]).toNat := ⟨_, rfl⟩
                have hixj := ix_str s (p + j) hpj ((p : Int) + j) (by omega)
                rw [← hz] at hfj hixj
                clear hz
                by_cases hc1 : z < 128
                · have hr : r = 1 := by rw [HW.out]; exact rl_bad f _ _ _ _ j hj1 hlt hs2 (by omega)
                  subst hr
                  go_wp2
                  go_ret
                  exact ⟨rfl, rfl⟩
                · by_cases hc2 : 191 < z
                  · have hr : r = 1 := by rw [HW.out]; exact rl_bad f _ _ _ _ j hj1 hlt hs2 (by omega)
                    subst hr
                    go_wp2
                    go_ret
                    exact ⟨rfl, rfl⟩
                  · have HS2 : Hid (∀ k, 2 ≤ k → k < j + 1 → ¬ (f k < 128 ∨ 191 < f k)) := by
                      intro k h1 h2
                      by_cases e : k = j
                      · subst e; omega
                      · exact HS.out k h1 (by omega)
                    go_wp2
                    go_round
                    case rel => exact ⟨j + 1, by omega, by omega, by go_num, HS2⟩
                    case measure => simp [intOf]; omega
              · obtain rfl : j = sz := by omega
                have hr : r = j := by rw [HW.out]; exact rl_ok f _ _ _ _ hsh (by omega) hs1 hs2 HS.out
                subst hr
                go_wp2
                go_ret
                exact ⟨by go_num, rfl⟩
end Go.Proofs.Qxb6601974aDoor
