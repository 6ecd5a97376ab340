import Derived.Test.Qxb6602401aDoorRows
import Derived.Test.Qxb6602401aDoorShelf
import Derived.WalkKit
import Derived.WalkSpells
import Derived.WalkLawsBesides
import Derived.Deep.DeepCutAuto
import Derived.Deep.CutBlock
import Derived.Deep.QuietTactic
import Derived.BigQuiet
import Derived.Lib.SmallJoins
import Derived.Deep.OwnRows
import Derived.Lib.SliceRun
namespace Go.Proofs.Qxb6602401aDoor
open Go.RowKit

theorem ret_bool {a b : Bool} (h : a = b) : Ending.returned (.bool a) = .returned (.bool b) := by rw [h]

def isSp (c : UInt8) : Bool := c == 32 || c == 9 || c == 10 || c == 13
def isOp (c : UInt8) : Bool := c == 91 || c == 123
def isCl (c : UInt8) : Bool := c == 93 || c == 125
def isDl (c : UInt8) : Bool := c == 44 || c == 58 || c == 93 || c == 125 || isSp c

theorem u8_is (c : UInt8) (k : Nat) (hk : k < 256) : ((c.toNat : Int) == (k : Int)) = (c == UInt8.ofNat k) := by
  rw [Bool.eq_iff_iff, beq_iff_eq, beq_iff_eq]
  constructor
  · intro h
    apply UInt8.toNat_inj.1
    rw [UInt8.toNat_ofNat']
    have : c.toNat = k := by omega
    rw [this, Nat.mod_eq_of_lt hk]
  · intro h
    rw [h, UInt8.toNat_ofNat', Nat.mod_eq_of_lt hk]

set_option maxRecDepth 100000 in
theorem space15 (c : UInt8) (w : World) : Calls Tryd.prog 15 #[.int .u8 c.toNat] w fun e w' => e = .returned (.bool (isSp c)) ∧ w' = w := by
  have h1 : ((c.toNat : Int) == 32) = (c == UInt8.ofNat 32) := u8_is c 32 (by decide)
  have h2 : ((c.toNat : Int) == 9) = (c == UInt8.ofNat 9) := u8_is c 9 (by decide)
  have h3 : ((c.toNat : Int) == 10) = (c == UInt8.ofNat 10) := u8_is c 10 (by decide)
  have h4 : ((c.toNat : Int) == 13) = (c == UInt8.ofNat 13) := u8_is c 13 (by decide)
  unfold isSp
  show Calls Tryd.prog 15 _ w fun e w' => e = .returned (.bool (c == UInt8.ofNat 32 || c == UInt8.ofNat 9 || c == UInt8.ofNat 10 || c == UInt8.ofNat 13)) ∧ w' = w
  generalize (c == UInt8.ofNat 32) = b1 at h1 ⊢
  generalize (c == UInt8.ofNat 9) = b2 at h2 ⊢
  generalize (c == UInt8.ofNat 10) = b3 at h3 ⊢
  generalize (c == UInt8.ofNat 13) = b4 at h4 ⊢
  generalize (c.toNat : Int) = z at *
  cases b1 <;> cases b2 <;> cases b3 <;> cases b4 <;>
    (go_enter Tryd.func15, Tryd.ntmps15
     go_wp2
     go_ret
     exact ⟨rfl, rfl⟩)

set_option maxRecDepth 100000 in
theorem space28 (c : UInt8) (w : World) : Calls Tryd.prog 28 #[.int .u8 c.toNat] w fun e w' => e = .returned (.bool (isSp c)) ∧ w' = w := by
  have h1 : ((c.toNat : Int) == 32) = (c == UInt8.ofNat 32) := u8_is c 32 (by decide)
  have h2 : ((c.toNat : Int) == 9) = (c == UInt8.ofNat 9) := u8_is c 9 (by decide)
  have h3 : ((c.toNat : Int) == 10) = (c == UInt8.ofNat 10) := u8_is c 10 (by decide)
  have h4 : ((c.toNat : Int) == 13) = (c == UInt8.ofNat 13) := u8_is c 13 (by decide)
  unfold isSp
  show Calls Tryd.prog 28 _ w fun e w' => e = .returned (.bool (c == UInt8.ofNat 32 || c == UInt8.ofNat 9 || c == UInt8.ofNat 10 || c == UInt8.ofNat 13)) ∧ w' = w
  generalize (c == UInt8.ofNat 32) = b1 at h1 ⊢
  generalize (c == UInt8.ofNat 9) = b2 at h2 ⊢
  generalize (c == UInt8.ofNat 10) = b3 at h3 ⊢
  generalize (c == UInt8.ofNat 13) = b4 at h4 ⊢
  generalize (c.toNat : Int) = z at *
  cases b1 <;> cases b2 <;> cases b3 <;> cases b4 <;>
    (go_enter Tryd.func28, Tryd.ntmps28
     go_wp2
     go_ret
     exact ⟨rfl, rfl⟩)

set_option maxRecDepth 100000 in
theorem open23 (c : UInt8) (w : World) : Calls Tryd.prog 23 #[.int .u8 c.toNat] w fun e w' => e = .returned (.bool (isOp c)) ∧ w' = w := by
  have h1 : ((c.toNat : Int) == 91) = (c == UInt8.ofNat 91) := u8_is c 91 (by decide)
  have h2 : ((c.toNat : Int) == 123) = (c == UInt8.ofNat 123) := u8_is c 123 (by decide)
  unfold isOp
  show Calls Tryd.prog 23 _ w fun e w' => e = .returned (.bool (c == UInt8.ofNat 91 || c == UInt8.ofNat 123)) ∧ w' = w
  generalize (c == UInt8.ofNat 91) = b1 at h1 ⊢
  generalize (c == UInt8.ofNat 123) = b2 at h2 ⊢
  generalize (c.toNat : Int) = z at *
  cases b1 <;> cases b2 <;>
    (go_enter Tryd.func23, Tryd.ntmps23
     go_wp2
     go_ret
     exact ⟨rfl, rfl⟩)

set_option maxRecDepth 100000 in
theorem close24 (c : UInt8) (w : World) : Calls Tryd.prog 24 #[.int .u8 c.toNat] w fun e w' => e = .returned (.bool (isCl c)) ∧ w' = w := by
  have h1 : ((c.toNat : Int) == 93) = (c == UInt8.ofNat 93) := u8_is c 93 (by decide)
  have h2 : ((c.toNat : Int) == 125) = (c == UInt8.ofNat 125) := u8_is c 125 (by decide)
  unfold isCl
  show Calls Tryd.prog 24 _ w fun e w' => e = .returned (.bool (c == UInt8.ofNat 93 || c == UInt8.ofNat 125)) ∧ w' = w
  generalize (c == UInt8.ofNat 93) = b1 at h1 ⊢
  generalize (c == UInt8.ofNat 125) = b2 at h2 ⊢
  generalize (c.toNat : Int) = z at *
  cases b1 <;> cases b2 <;>
    (go_enter Tryd.func24, Tryd.ntmps24
     go_wp2
     go_ret
     exact ⟨rfl, rfl⟩)

set_option maxRecDepth 100000 in
theorem delim25 (c : UInt8) (w : World) : Calls Tryd.prog 25 #[.int .u8 c.toNat] w fun e w' => e = .returned (.bool (isDl c)) ∧ w' = w := by
  have h1 : ((c.toNat : Int) == 44) = (c == UInt8.ofNat 44) := u8_is c 44 (by decide)
  have h2 : ((c.toNat : Int) == 58) = (c == UInt8.ofNat 58) := u8_is c 58 (by decide)
  have h3 : ((c.toNat : Int) == 93) = (c == UInt8.ofNat 93) := u8_is c 93 (by decide)
  have h4 : ((c.toNat : Int) == 125) = (c == UInt8.ofNat 125) := u8_is c 125 (by decide)
  unfold isDl
  have hsp := space15 c w
  show Calls Tryd.prog 25 _ w fun e w' => e = .returned (.bool (c == UInt8.ofNat 44 || c == UInt8.ofNat 58 || c == UInt8.ofNat 93 || c == UInt8.ofNat 125 || isSp c)) ∧ w' = w
  generalize (c == UInt8.ofNat 44) = b1 at h1 ⊢
  generalize (c == UInt8.ofNat 58) = b2 at h2 ⊢
  generalize (c == UInt8.ofNat 93) = b3 at h3 ⊢
  generalize (c == UInt8.ofNat 125) = b4 at h4 ⊢
  generalize isSp c = b5 at hsp ⊢
  generalize (c.toNat : Int) = z at *
  have HS : Hid (Calls Tryd.prog 15 #[.int .u8 z] w fun e w' => e = .returned (.bool b5) ∧ w' = w) := hsp
  clear hsp
  cases b1
  · cases b2
    · cases b3
      · cases b4
        · go_enter Tryd.func25, Tryd.ntmps25
          go_wp2_with fail
          refine Calls.mono HS.out ?_
          rintro e w1 ⟨rfl, rfl⟩
          go_wp2
          go_ret
          exact ⟨ret_bool (by simp), rfl⟩
        · go_enter Tryd.func25, Tryd.ntmps25
          go_wp2
          go_ret
          exact ⟨ret_bool (by simp), rfl⟩
      · go_enter Tryd.func25, Tryd.ntmps25
        go_wp2
        go_ret
        exact ⟨ret_bool (by simp), rfl⟩
    · go_enter Tryd.func25, Tryd.ntmps25
      go_wp2
      go_ret
      exact ⟨ret_bool (by simp), rfl⟩
  · go_enter Tryd.func25, Tryd.ntmps25
    go_wp2
    go_ret
    exact ⟨ret_bool (by simp), rfl⟩

set_option maxRecDepth 100000 in
theorem bytes7 (ao : Option Addr) (n cap : Nat) (w : World) (hn : n ≤ 9223372036854775807) :
    Calls Tryd.prog 7 #[.slice ao n cap] w fun e w' => e = .returned (.bool (decide (n ≤ 1048576))) ∧ w' = w := by
  by_cases h : n ≤ 1048576
  · rw [decide_eq_true h]
    go_enter Tryd.func7, Tryd.ntmps7
    go_wp2
    go_ret
    exact ⟨rfl, rfl⟩
  · rw [decide_eq_false h]
    go_enter Tryd.func7, Tryd.ntmps7
    go_wp2
    go_ret
    exact ⟨rfl, rfl⟩

def bc (c : UInt8) : Value := .int .u8 c.toNat

/-- a slice of bytes that holds l -/
def BRow (w : World) (ao : Option Addr) (n : Nat) (l : List UInt8) : Prop :=
  l.length = n ∧ (n = 0 ∨ ∃ b off, ao = some ⟨b, off, none⟩ ∧ b < w.heap.size ∧ ∀ i, i < n → w.cell? ⟨b, off + i, none⟩ = some (bc (l.getD i 0)))

theorem BRow.at {w : World} {ao : Option Addr} {n : Nat} {l : List UInt8} (h : BRow w ao n l) (k : Nat) (hk : k < n) :
    ∃ b off, ao = some ⟨b, off, none⟩ ∧ w.cell? ⟨b, off + k, none⟩ = some (bc (l.getD k 0)) := by
  rcases h.2 with h0 | ⟨b, off, h1, _, h2⟩
  · omega
  · exact ⟨b, off, h1, h2 k hk⟩

theorem BRow.later {w w' : World} {ao : Option Addr} {n : Nat} {l : List UInt8} (h : BRow w ao n l) (hb : Below w.heap.size w w') : BRow w' ao n l := by
  refine ⟨h.1, ?_⟩
  rcases h.2 with h0 | ⟨b, off, h1, h3, h2⟩
  · exact .inl h0
  · exact .inr ⟨b, off, h1, Nat.lt_of_lt_of_le h3 hb.size, fun i hi => (hb.cell (p := ⟨b, off + i, none⟩) h3).trans (h2 i hi)⟩

/-- the block b holds the values I, and may be written -/
def VBuf (b : Nat) (I : List Value) (w : World) : Prop := b < w.heap.size ∧ ∀ i, i < I.length → w.cell? ⟨b, i, none⟩ = I[i]? ∧ w.frozen? ⟨b, i, none⟩ = false

theorem VBuf.keep {b : Nat} {I : List Value} {w w' : World} (h : VBuf b I w) (hs : w.heap.size ≤ w'.heap.size) (hb : w'.heap[b]? = w.heap[b]?) : VBuf b I w' :=
  ⟨Nat.lt_of_lt_of_le h.1 hs, fun i hi => ⟨(World.cell?_of_block (w := w) hb).trans (h.2 i hi).1, (World.frozen?_of_block (w := w) hb).trans (h.2 i hi).2⟩⟩

theorem VBuf.set {b : Nat} {I : List Value} {w : World} (h : VBuf b I w) (k : Nat) (hk : k < I.length) (c : Value) : VBuf b (I.set k c) (w.setCell ⟨b, k, none⟩ c) := by
  refine ⟨by have := h.1; simp [World.setCell]; omega, fun i hi => ?_⟩
  rw [List.length_set] at hi
  refine ⟨?_, by rw [World.frozen?_setCell]; exact (h.2 i hi).2⟩
  by_cases e : k = i
  · subst e
    rw [World.cell?_setCell_same _ _ _ ((h.2 k hk).1.trans (List.getElem?_eq_getElem hk))]
    simp [hk]
  · rw [World.cell?_setCell_other _ _ _ _ (by intro h; apply e; cases h; rfl), (h.2 i hi).1]
    simp [List.getElem?_set_ne e]

theorem vbuf_made (w : World) (z : Value) (n e : Nat) : VBuf w.heap.size (List.replicate n z) (w.alloc (.cells (madeCells #[z] n) e)) := by
  refine ⟨by simp, fun i hi => ?_⟩
  have hh : (w.alloc (.cells (madeCells #[z] n) e)).heap[w.heap.size]? = some (.cells (madeCells #[z] n) e) := by
    show (w.heap.push _)[w.heap.size]? = _
    simp
  rw [List.length_replicate] at hi
  constructor
  · simp only [World.cell?]
    rw [hh]
    simp [madeCells, hi, Nat.mod_one]
  · simp only [World.frozen?]
    rw [hh]
    simp

theorem Tryd.info5 : (Tryd.prog.info? 5).map (fun i => (i.zero, i.size, i.bytes)) = some (some (.int .u8 0), 1, 1) := by kernel_rfl

def Bs (l : List UInt8) : List Value := l.map bc
/-- the first k of l laid, zeros behind -/
def half (l : List UInt8) (n k : Nat) : List Value := Bs (l.take k) ++ List.replicate (n - k) (.int .u8 0)
theorem half_zero (l : List UInt8) (n : Nat) : List.replicate n (.int .u8 0) = half l n 0 := by simp [half, Bs]
theorem half_step (l : List UInt8) (n k : Nat) (h : l.length = n) (hk : k < n) : (half l n k).set k (bc (l.getD k 0)) = half l n (k + 1) := by
  unfold half Bs
  rw [List.take_succ_eq_append_getElem (by omega : k < l.length)]
  have hl : ((l.take k).map bc).length = k := by simp; omega
  rw [List.set_append_right _ _ (by omega), hl, Nat.sub_self, show n - k = (n - (k + 1)) + 1 from by omega, List.replicate_succ, List.set_cons_zero, List.map_append, List.append_assoc]
  congr 1
  simp [(by omega : k < l.length)]
theorem half_len (l : List UInt8) (n k : Nat) (h : l.length = n) (hk : k ≤ n) : (half l n k).length = n := by
  unfold half Bs; simp; omega
theorem half_all (l : List UInt8) (n : Nat) (h : l.length = n) : half l n n = Bs l := by
  unfold half; simp [← h]
theorem vbuf_row {b : Nat} {l : List UInt8} {w : World} (h : VBuf b (Bs l) w) : BRow w (some ⟨b, 0, none⟩) l.length l := by
  refine ⟨rfl, .inr ⟨b, 0, rfl, h.1, fun i hi => ?_⟩⟩
  rw [Nat.zero_add, (h.2 i (by simpa [Bs] using hi)).1]
  simp [Bs, hi]

set_option maxHeartbeats 1000000 in
set_option maxRecDepth 100000 in
theorem clone8 (ao : Option Addr) (n cap : Nat) (l : List UInt8) (w : World) (hrow : BRow w ao n l) (hn : n ≤ 1048576) :
    Calls Tryd.prog 8 #[.slice ao n cap] w fun e w' => ∃ ao' cap', e = .returned (.slice ao' n cap') ∧ BRow w' ao' n l ∧ n ≤ cap' ∧ Below w.heap.size w w' := by
  have hlv : Hid (l.length = n) := hrow.1
  have HRW : Hid (BRow w ao n l) := hrow
  clear hrow
  have heq := fun (w : World) (a : Option Addr) (n c : Nat) => Lib.run_eql_slice_nil (P := Tryd.prog) w 22 5 a n c 0 0 Tryd.underlying22
  cases ao with
  | none =>
    have h0 : n = 0 := by
      rcases HRW.out.2 with h | ⟨_, _, h, _⟩
      · exact h
      · cases h
    subst h0
    go_enter Tryd.func8, Tryd.ntmps8
    go_wp2
    go_ret
    exact ⟨none, 0, rfl, ⟨hlv.out, .inl rfl⟩, Nat.le_refl _, Below.refl _ _⟩
  | some a =>
    have hmk := run_make_row' (P := Tryd.prog) 22 5 (.int .u8 0) 1 Tryd.underlying22 Tryd.info5 rfl .i64 .i64 n (by omega) (by omega)
    go_enter Tryd.func8, Tryd.ntmps8
    go_wp2_with fail
    have hvb := vbuf_made w (.int .u8 0) n 5
    have hbel : Below w.heap.size w (w.alloc (.cells (madeCells #[Value.int .u8 0] n) 5)) := (Below.refl _ _).alloc (Nat.le_refl _) _
    rw [half_zero l n] at hvb
    obtain ⟨w2, hw2⟩ : ∃ w2, w2 = w.alloc (.cells (madeCells #[Value.int .u8 0] n) 5) := ⟨_, rfl⟩
    rw [← hw2] at hvb hbel ⊢
    clear hw2
    go_loopw [4] (fun i wr => ∃ (k : Nat), k ≤ n ∧ i = .int .i64 k ∧ VBuf w.heap.size (half l n k) wr ∧ Below w.heap.size w wr) (fun i _ => n - (intOf i).toNat)
    case atStart => exact ⟨0, Nat.zero_le _, rfl, hvb, hbel⟩
    case round =>
      obtain ⟨k, hk, rfl, hv, hb⟩ := hrel
      by_cases hlt : k < n
      · obtain ⟨b, off, hao, hcell⟩ := BRow.at (BRow.later HRW.out hb) k hlt
        obtain rfl := Option.some.inj hao
        have hkl : k < (half l n k).length := by rw [half_len l n k hlv.out hk]; exact hlt
        have hold := (hv.2 k hkl).1
        have hfro := (hv.2 k hkl).2
        rw [List.getElem?_eq_getElem hkl] at hold
        have hv2 := hv.set k hkl (bc (l.getD k 0))
        rw [half_step l n k hlv.out hlt] at hv2
        have hb2 := hb.setCell (p := ⟨w.heap.size, k, none⟩) (Nat.le_refl _) (bc (l.getD k 0))
        obtain ⟨x, hx⟩ : ∃ x, x = l.getD k 0 := ⟨_, rfl⟩
        rw [← hx] at hcell hv2 hb2
        clear hx
        have HV2 : Hid _ := hv2
        have HB2 : Hid _ := hb2
        clear hv2 hb2 hv hb
        unfold bc at hcell
        go_wp2
        go_roundw
        case rel => exact ⟨k + 1, by omega, by go_num, HV2.out, HB2.out⟩
        case measure => simp [intOf]; omega
      · obtain rfl : k = n := by omega
        rw [half_all l k hlv.out] at hv
        have h1 := vbuf_row hv
        rw [hlv.out] at h1
        have H1 : Hid (BRow wr (some ⟨w.heap.size, 0, none⟩) k l) := h1
        clear h1 hv
        go_wp2
        go_ret
        exact ⟨_, _, rfl, H1.out, Nat.le_refl _, hb⟩
end Go.Proofs.Qxb6602401aDoor
