import Derived.Test.Qxb6602401aDoorPl6
namespace Go.Proofs.Qxb6602401aDoor
open Go.RowKit

theorem auto_whole (x rest : List UInt8) (pos : Nat) (hw : Whole x) (hg : good rest) : auto (x ++ rest) pos 0 0 0 = (pos + x.length, (auto x 0 0 0 0).2) := by
  obtain ⟨c, t, rfl, h1, h2, h3, h4⟩ := hw
  have h5 := auto_shift (c :: t ++ [44]) pos 0 0 0 0
  have h6 := auto_shift (c :: t) pos 0 0 0 0
  rw [Nat.add_zero] at h5 h6
  rw [auto_tok c t pos h1 h2 (by rw [h5, h4]) rest hg, h6, h3]

theorem dat_len (pad : List UInt8) (vs : List (List UInt8)) : (dat pad vs).length = (pre pad vs vs.length).length + pad.length := by
  unfold dat; rw [List.length_append]

theorem auto_none (pad : List UInt8) (vs : List (List UInt8)) (hp : ∀ c ∈ pad, isSp c = true) (h : vs.length = 0) : auto (dat pad vs) 0 0 0 0 = ((dat pad vs).length, 0) := by
  unfold dat
  rw [h]
  show auto (pad ++ pad) 0 0 0 0 = _
  rw [auto_pad pad pad 0 0 hp]
  have h2 := auto_pad pad [] (0 + pad.length) 0 hp
  rw [List.append_nil] at h2
  rw [h2, auto_nil, if_pos rfl]
  show _ = ((pad ++ pad).length, (0 : Int))
  rw [List.length_append]
  congr 1
  omega

theorem auto_first (pad : List UInt8) (vs : List (List UInt8)) (hp : ∀ c ∈ pad, isSp c = true) (h : 0 < vs.length) (hw : Whole (vs.getD 0 [])) :
    auto (dat pad vs) 0 0 0 0 = (pad.length + (vs.getD 0 []).length, (auto (vs.getD 0 []) 0 0 0 0).2) := by
  rw [dat_at pad vs 0 h]
  show auto (pad ++ (sepK pad 0 ++ _)) 0 0 0 0 = _
  rw [auto_pad pad _ 0 0 hp]
  unfold sepK
  rw [if_pos rfl, List.nil_append, auto_whole _ _ _ hw (rst_good pad hp _), Nat.zero_add]

theorem auto_at (pad : List UInt8) (vs : List (List UInt8)) (k : Nat) (hp : ∀ c ∈ pad, isSp c = true) (h : k < vs.length) (hw : Whole (vs.getD k [])) :
    auto ((dat pad vs).drop (stK pad vs k)) 0 0 0 0 = ((vs.getD k []).length, (auto (vs.getD k []) 0 0 0 0).2) := by
  rw [dat_drop pad vs k h, auto_whole _ _ _ hw (rst_good pad hp _), Nat.zero_add]

theorem stK_len (pad : List UInt8) (vs : List (List UInt8)) (k : Nat) (h : k < vs.length) : stK pad vs k + (vs.getD k []).length + (rst pad (vs.drop (k + 1))).length = (dat pad vs).length := by
  rw [dat_at pad vs k h]
  unfold stK
  simp only [List.length_append]
  omega

theorem drop_more (pad : List UInt8) (vs : List (List UInt8)) (k : Nat) (h : k < vs.length) : (dat pad vs).drop (stK pad vs k + (vs.getD k []).length) = rst pad (vs.drop (k + 1)) := by
  rw [← List.drop_drop, dat_drop pad vs k h, List.drop_left]

theorem next_end (pad : List UInt8) (vs : List (List UInt8)) (k : Nat) (hp : ∀ c ∈ pad, isSp c = true) (h : k + 1 = vs.length) :
    SkTo (dat pad vs) (dat pad vs).length (stK pad vs k + (vs.getD k []).length) (dat pad vs).length := by
  have h1 := drop_more pad vs k (by omega)
  have h2 := stK_len pad vs k (by omega)
  rw [List.drop_eq_nil_of_le (by omega : vs.length ≤ k + 1)] at h1 h2
  have h3 := sk_pad (dat pad vs) pad [] _ _ rfl (by rw [h1, List.append_nil]; rfl) (by omega) hp (.inl rfl)
  have h4 : stK pad vs k + (vs.getD k []).length + pad.length = (dat pad vs).length := h2
  rw [h4] at h3
  exact h3

theorem next_more (pad : List UInt8) (vs : List (List UInt8)) (k : Nat) (hp : ∀ c ∈ pad, isSp c = true) (h : k + 1 < vs.length) (hw : Whole (vs.getD (k + 1) [])) :
    let a := stK pad vs k + (vs.getD k []).length + pad.length
    SkTo (dat pad vs) (dat pad vs).length (stK pad vs k + (vs.getD k []).length) a ∧ a < (dat pad vs).length ∧ (dat pad vs).getD a 0 = 44 ∧ SkTo (dat pad vs) (dat pad vs).length (a + 1) (stK pad vs (k + 1)) := by
  intro a
  have h1 := drop_more pad vs k (by omega)
  have h2 := stK_len pad vs k (by omega)
  have h5 := stK_len pad vs (k + 1) (by omega)
  have h6 := stK_succ pad vs k
  rw [List.drop_eq_getElem_cons (by omega : k + 1 < vs.length)] at h1
  have hv : vs[k + 1] = vs.getD (k + 1) [] := by simp [h]
  rw [hv] at h1
  obtain ⟨c, t, hct, hsp, _⟩ := hw
  have h3 := sk_pad (dat pad vs) pad (44 :: (pad ++ (vs.getD (k + 1) [] ++ rst pad (vs.drop (k + 1 + 1))))) _ _ rfl h1 (by omega) hp (.inr ⟨_, _, rfl, by decide⟩)
  have h7 : (dat pad vs).drop (a + 1) = pad ++ (c :: (t ++ rst pad (vs.drop (k + 1 + 1)))) := by
    show (dat pad vs).drop (stK pad vs k + (vs.getD k []).length + pad.length + 1) = _
    rw [← List.drop_drop, ← List.drop_drop, h1]
    show ((pad ++ (44 :: _)).drop pad.length).drop 1 = _
    rw [List.drop_left, hct]
    rfl
  have h8 := sk_pad (dat pad vs) pad _ (dat pad vs).length (a + 1) rfl h7 (by show stK pad vs k + (vs.getD k []).length + pad.length + 1 ≤ _; omega) hp (.inr ⟨_, _, rfl, hsp⟩)
  refine ⟨h3, by show stK pad vs k + (vs.getD k []).length + pad.length < _; omega, ?_, ?_⟩
  · show (dat pad vs).getD (stK pad vs k + (vs.getD k []).length + pad.length) 0 = 44
    have h9 : (dat pad vs).getD (stK pad vs k + (vs.getD k []).length + pad.length) 0 = (pad ++ (44 :: (pad ++ (vs.getD (k + 1) [] ++ rst pad (vs.drop (k + 1 + 1)))))).getD pad.length 0 := by
      rw [getD_drop, h1]
      rfl
    rw [h9, List.getD_eq_getElem?_getD, List.getElem?_append_right (Nat.le_refl _), Nat.sub_self]
    rfl
  · rw [show stK pad vs (k + 1) = a + 1 + pad.length from by show _ = stK pad vs k + (vs.getD k []).length + pad.length + 1 + pad.length; omega]
    exact h8

/-- where the walk stands ahead of token k -/
def posK (pad : List UInt8) (vs : List (List UInt8)) (n L k : Nat) : Nat := if k < n then stK pad vs k else L

theorem nextK (g k L n : Nat) (pad : List UInt8) (vs : List (List UInt8)) (w : World) (hL : (dat pad vs).length = L) (hn : vs.length = n) (hk : k < n) (hp : ∀ c ∈ pad, isSp c = true) (hw : ∀ k, k < n → Whole (vs.getD k []))
    (hrow : BRow w (some ⟨g, 0, none⟩) L (dat pad vs)) (hl : L ≤ 1048576) :
    Calls Tryd.prog 20 #[.slice (some ⟨g, 0, none⟩) L L, .int .i64 ((stK pad vs k + (vs.getD k []).length : Nat) : Int)] w fun e w' => e = .returned (.int .i64 (posK pad vs n L (k + 1) : Nat)) ∧ w' = w := by
  subst hL hn
  refine zznext20 _ _ _ w (some ⟨g, 0, none⟩) _ _ rfl ?_
  unfold posK
  split
  · rename_i h
    obtain ⟨a1, a2, a3, a4⟩ := next_more pad vs k hp h (hw _ h)
    exact next26_comma _ _ _ _ _ _ _ w hrow hl a1 a2 a3 a4
  · exact next26_end _ _ _ _ _ w hrow hl (next_end pad vs k hp (by omega))

theorem BRow.tail {w : World} {g n : Nat} {l : List UInt8} (h : BRow w (some ⟨g, 0, none⟩) n l) (a : Nat) (ha : a ≤ n) : BRow w (some ⟨g, a, none⟩) (n - a) (l.drop a) := by
  refine ⟨by rw [List.length_drop, h.1], ?_⟩
  rcases h.2 with h0 | ⟨b, off, h1, h3, h2⟩
  · left; omega
  · obtain ⟨rfl, rfl⟩ : b = g ∧ off = 0 := by
      injection h1 with h1
      injection h1 with e1 e2 _
      exact ⟨e1.symm, e2.symm⟩
    refine .inr ⟨b, a, rfl, h3, fun i hi => ?_⟩
    have h4 := h2 (a + i) (by omega)
    rw [Nat.zero_add, getD_drop] at h4
    exact h4
end Go.Proofs.Qxb6602401aDoor
