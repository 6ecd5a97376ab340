/- Seat b6602401aD: the row of FnScanAndNextWalkAList and its tied card. -/
import Derived.Test.Qxb6602401aDoorTie
import Derived.Test.Qxb6602401aDoorCards
import Derived.Test.Qxb6602401aDoorW14
import Derived.ProofKit
import Derived.LaidMore
import Derived.Lay
import Derived.SevenTiedAt
import Derived.Stop.Joined
import Derived.HandedShaped
import Derived.SizedLaws
import Derived.PinnedBridge
import Derived.ChangeSlices
import Derived.SliceStrings
import Derived.OpenShut
import Derived.Carry
import Derived.Lib.LaidU8
import Derived.Lib.LaidU8T
import Derived.Shelf.Vars
namespace Go.Proofs.Qxb6602401aDoor
open Go.ChangeShapes Go.WideShapes Go.ChangeAt Go.RowKit
open Go.WideMaps Go.WideElems
open Go.ChangeMaps (open_string shut_string)

theorem own : ownKnob Tryd.prog.godebug = none := by kernel_rfl

/-- The wrap with a condition of the row's ('laid') and the world's shape kept. -/
theorem wrap_shaped {H : Type} {enc : TypeId × Value → H} {a : Assume} {C : Checked} {os : Os} {f : FuncId} {fn : Func} {s : ChangeSpec} {conds : List PathCond} {apart fresh handsOn again : Bool} {X : World → Array Value → Prop}
    (hX : ∀ (w w' : World) (args : Array Value), w.heap = w'.heap → X w args → X w' args)
    (own : ownKnob C.prog.godebug = none) (started : os.Started) (noInit : C.prog.inits.idxOf? f = none) (hfn : C.prog.funcs[f]? = some fn)
    (witness : ∃ (w : World) (tape : Tape) (i : Input), w.os = os ∧ (w.forCall tape i).Shaped C.prog ∧ i.vars = [] ∧ Input.okWide C.prog (w.forCall tape i) .any w.heap.size f i ∧
      ((s.pre enc C.prog fn conds apart (w.forCall tape i).memory i.args ∧ X (w.forCall tape i).memory i.args) ∧ sizedMet enc C.prog fn (OpenSpec.ofChange s) apart (w.forCall tape i).memory i.args) ∧ a.holds C.prog (lone (Frame.enter C.prog f i.args .normal) [] (w.forCall tape i)))
    (contract : ∀ (W : World) (base : Nat) (args : Array Value) (ds gs : List (DataW H)) (before : List MemPlace),
      (∀ (j : Nat) t v, fn.params[j]? = some t → args[j]? = some v → Value.okWide C.prog W .any base t v) →
      DataW.Whole enc C.prog fn.params.toList s.vars apart W args.toList ds gs before →
      X W args → W.ShapedOpen C.prog →
      Calls C.prog f args W fun e W' => ∃ v, e = .returned v ∧ s.post enc C.prog fn apart fresh handsOn again W args v W') :
    ReturnsInHanded a C os f .any (fun w args => (s.pre enc C.prog fn conds apart w args ∧ X w args) ∧ sizedMet enc C.prog fn (OpenSpec.ofChange s) apart w args) (s.post enc C.prog fn apart fresh handsOn again) := by
  refine returnsInHanded_of_calls own started noInit witness ?_
  intro w tape i _ hsh _ hok hpre _
  obtain ⟨_, _, _, fn', hfn', _, _, _, _, hval⟩ := hok
  have e : fn' = fn := Option.some.inj (hfn'.symm.trans hfn)
  subst e
  obtain ⟨⟨⟨ds, gs, before, hw, _⟩, hx⟩, _⟩ := hpre
  have hw' := DataW.Whole.of_heap (w' := w.forCall tape i) (by rfl) hw
  refine (contract (w.forCall tape i) w.heap.size i.args ds gs before hval hw' (hX _ _ _ (by rfl) hx) hsh).mono fun e W' ⟨v, he, hp⟩ => ?_
  subst he
  exact ChangeSpec.post_blind hp

theorem laidOut : laidOutB Tryd.prog = true := by kernel_rfl
theorem cells9 : Tryd.prog.cellsOf 9 = 1 := by kernel_rfl

def u8ren : Go.Shelf.Ren := ⟨fun n => n, fun | 119 => 57 | 138 => 59 | 139 => 60 | n => n, fun | 3 => 1 | 4 => 2 | n => n⟩
theorem maxlen_of (w : World) (h : w.ShapedOpen Tryd.prog) : ∃ m, w.cell? ⟨0, 0, none⟩ = some (.int .i64 m) :=
  Go.Proofs.cell_of_shapedOpen_int (zero := #[.int .i64 0]) (t := 3) h (of_decide_eq_true (by kernel_rfl)) (by kernel_rfl) rfl (by kernel_rfl) (by kernel_rfl) Tryd.underlying3

theorem tabs_of (W : World) (l : List (String × DataW Unit)) (hp : (l.all fun x => x.2.handleName?.isNone) = true) (h3 : ("unicode/utf8.first", Rows.laid_unicode_utf8_first) ∈ l) (h4 : ("unicode/utf8.acceptRanges", Rows.laid_unicode_utf8_acceptRanges) ∈ l)
    (hL : laidMetH Tryd.prog l W) : Lib.Utf8Tabs 1 2 W := by
  rw [MakeChecks.laidMetH_plain _ _ _ hp] at hL
  have r3 := Lib.laidMet.reads hL h3
  have r4 := Lib.laidMet.reads hL h4
  rw [show Rows.laid_unicode_utf8_first = Lib.firstData from Pinned.utf8First_eq] at r3
  rw [show (Rows.laid_unicode_utf8_acceptRanges : DataW Unit) = Lib.acceptData from by kernel_rfl] at r4
  exact utf8Tabs_of_readsT (ρ := u8ren) ⟨Tryd.underlying5, Tryd.underlying57, Tryd.underlying59, Tryd.underlying60⟩ ⟨by kernel_rfl, by kernel_rfl, by kernel_rfl, by kernel_rfl, by kernel_rfl, by kernel_rfl, by kernel_rfl⟩ r3 r4

theorem row_of {H : Type} {enc : TypeId × Value → H} {d : DataW H} {p : List MemPlace} (a0 : Option Addr) (len cap fuel : Nat) (W : World) (hf : DataW.trod enc Tryd.prog W 0 (fun _ => true) true fuel 29 (Value.slice a0 len cap).cells.toList = some (d, p)) :
    ∃ vs : List (List UInt8), SRow W a0 len vs ∧ len ≤ 9223372036854775807 ∧ ∀ i, i < len → (vs.getD i []).length ≤ 9223372036854775807 := by
  rcases open_strings Tryd.underlying29 Tryd.underlying9 cells9 hf with ⟨hcs, _⟩ | ⟨a, len', cap', ss, hcs, _, hl, hm, hz, _, hcell, hws⟩
  · simp [Value.cells] at hcs
    obtain ⟨rfl, rfl, rfl⟩ := hcs
    exact ⟨[], ⟨rfl, .inl rfl⟩, by omega, fun i hi => absurd hi (Nat.not_lt_zero _)⟩
  · simp [Value.cells] at hcs
    obtain ⟨rfl, rfl, rfl⟩ := hcs
    simp only [if_true] at hz
    unfold maxLen at hm hws
    have hg : ∀ i, i < len → ((ss.take len).map (·.data.toList)).getD i [] = (ss.getD i ByteArray.empty).data.toList := by
      intro i hi
      simp [List.getElem?_take_of_lt hi, (by omega : i < ss.length)]
    refine ⟨(ss.take len).map (·.data.toList), ⟨by simp; omega, ?_⟩, by omega, fun i hi => ?_⟩
    · by_cases h0 : len = 0
      · exact .inl h0
      · right
        obtain ⟨b, off, spot⟩ := a
        have hspot : spot = none := by simpa [Addr.add] using World.cell?_spot (hcell 0 (by omega))
        subst hspot
        refine ⟨b, off, rfl, pos_of_cell (hcell 0 (by omega)), fun i hi => ?_⟩
        rw [hg i hi, ← add_plain, hcell i (by omega)]
        unfold sc
        rw [Lib.mk_data]
    · rw [hg i hi]
      refine hws _ ?_
      rw [List.getD_eq_getElem?_getD, List.getElem?_eq_getElem (by omega : i < ss.length)]
      exact List.getElem_mem _

set_option maxRecDepth 100000 in
theorem lifted (os : Os) (started : os.Started) (H : Type) (enc : TypeId × Value → H) :
    ReturnsInHanded {} Tryd.checked os 6 .any (fun w args => (Rows.fnScanAndNextWalkAListSpec.pre enc Tryd.prog Tryd.f6 [] false w args ∧ laidMetH Tryd.prog Rows.fnScanAndNextWalkAListRow.laid w) ∧ sizedMet enc Tryd.prog Tryd.f6 (OpenSpec.ofChange Rows.fnScanAndNextWalkAListSpec) false w args)
      (Rows.fnScanAndNextWalkAListSpec.post enc Tryd.prog Tryd.f6 false true false false) := by
  refine wrap_shaped (C := Tryd.checked) (X := fun w _ => laidMetH Tryd.prog Rows.fnScanAndNextWalkAListRow.laid w) (fun _ _ _ hh h => h.of_heap hh) own started (by kernel_rfl) Tryd.func6
    (ChangeSpec.witness_shaped (enc := enc) (C := Tryd.checked) (os := os) (X := fun w _ => laidMetH Tryd.prog Rows.fnScanAndNextWalkAListRow.laid w) false (World.laidAll Tryd.prog os Rows.fnScanAndNextWalkAListRow.laid) #[.slice none 0 0, .string ⟨#[]⟩] 8 (World.laidAll_os _ _ _)
      (World.shaped_of_ZipB (by kernel_rfl) (by kernel_rfl)) (by kernel_rfl) (by kernel_rfl) (by kernel_rfl)
      (by rw [MakeChecks.laidMetH_plain _ _ _ (by kernel_rfl)]; exact laidMet_laidAll _ (by kernel_rfl) (by kernel_rfl))) ?_
  intro W base args ds gs before hval0 hW hL hsh
  have hval : ∀ (j : Nat) t v, Tryd.f6.params[j]? = some t → args[j]? = some v → Value.okWide Tryd.prog W .any base t v := hval0
  have hW' := hW
  obtain ⟨p, q, hA0, hV, rfl, _, _⟩ := hW
  have hA : DataW.TrodAll enc Tryd.prog W 0 (fun _ => true) true Tryd.f6.params.toList args.toList ds p := hA0
  rw [Tryd.params6] at hA hval
  obtain ⟨v0, v1, d0, d1, p0, p1, rfl, rfl, rfl, h0, h1⟩ := trodAll_two hA
  obtain ⟨rfl, rfl⟩ := trodVars_none hV
  have h0k := h0
  obtain ⟨s, rfl, rfl, rfl, hs⟩ := open_string Tryd.underlying9 (hval 1 9 v1 rfl rfl) h1
  obtain ⟨a0, len, cap, rfl⟩ := okWide_slice Tryd.underlying29 (hval 0 29 v0 rfl rfl)
  obtain ⟨fuel, hf⟩ := h0
  simp only [List.append_nil] at hW'
  have hlt : ∀ x ∈ p0, x.block < W.heap.size := fun x hx => by simpa using hW'.lt x hx
  obtain ⟨mx, hm⟩ : ∃ m, W.cell? ⟨0, 0, none⟩ = some (.int .i64 m) := maxlen_of W hsh
  have hT : Lib.Utf8Tabs 1 2 W := tabs_of W Rows.fnScanAndNextWalkAListRow.laid (by kernel_rfl) (.tail _ (.head _)) (.head _) hL
  obtain ⟨vs, hrow, hn, hv⟩ := row_of a0 len cap fuel W hf
  unfold maxLen at hs
  have hlaw := law6 a0 len cap vs s.data.toList mx W hrow hn hv (by simpa using hs) hm hT
  rw [Lib.mk_data] at hlaw
  refine hlaw.mono fun e W' ⟨he, hb⟩ => ?_
  subst he
  exact ⟨_, rfl, _, _, _, [], p0 ++ [], [], hW', trodAll_mk1 (shut_bool Tryd.underlying4 _),
    trodAll_mk2 (p' := []) (Below.trod laidOut (by kernel_rfl) (of_decide_eq_true (by kernel_rfl)) h0k hb hlt) (shut_string Tryd.underlying9 hs), rfl, hb.frame _, fun h => by cases h⟩

theorem row_holds : Rows.FnScanAndNextWalkAListSaid :=
  OpenClaim.holds_of_wide 6 Tryd.f6 rfl rfl rfl rfl rfl rfl rfl ⟨rfl, rfl, rfl, rfl, rfl⟩ rfl rfl rfl rfl rfl (by kernel_rfl) Tryd.func6 (by kernel_rfl)
    (of_decide_eq_true (by kernel_rfl)) (by unfold Func.isWrapper; first | (rw [if_pos (by decide +kernel)]; kernel_rfl) | (rw [if_neg (by decide +kernel)]; exact ⟨rfl, rfl⟩))
    (fun os started H enc _ => lifted os started H enc)

theorem card_holds : Rows.FnScanAndNextWalkAListCardSaid :=
  Claim7.holds_tied_plain_at .later [] [.data, .pinned] true Rows.fnScanAndNextWalkAListCard.stood.harness false row_holds (fun _ h => by cases h) (by kernel_rfl) (fun _ h => by cases h) fnScanAndNextWalkAList_row_tie rfl ⟨rfl, rfl⟩ (by kernel_rfl) rfl
    (fun f fn hf hfn => by
      obtain rfl : f = 6 := Option.some.inj ((show Tryd.prog.funcNamed Rows.fnScanAndNextWalkAListRow.func = some 6 by kernel_rfl).symm.trans hf) |>.symm
      obtain rfl : fn = Tryd.f6 := (Option.some.inj (Tryd.func6.symm.trans hfn)).symm
      exact ⟨by kernel_rfl, fun j t ht => by
        rw [Tryd.params6] at ht
        have hm : t ∈ [29, 9] := by simpa using Array.mem_of_getElem? ht
        have hall : ([29, 9].all fun u => !Tryd.prog.wantsStandIn u) = true := by kernel_rfl
        exact (show Tryd.prog.wantsStandIn t = false by simpa using List.all_eq_true.1 hall t hm)⟩)
    (by kernel_rfl)
end Go.Proofs.Qxb6602401aDoor
