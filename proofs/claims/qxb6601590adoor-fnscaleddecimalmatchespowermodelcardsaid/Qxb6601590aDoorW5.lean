import Derived.Test.Qxb6601590aDoorW4
namespace Go.Proofs.Qxb6601590aDoor
open Go.RowKit

theorem ret_text {m : List UInt8 × Bool} {a : List UInt8} {b : Bool} (h1 : m.1 = a) (h2 : m.2 = b) :
    Ending.returned (.tuple #[.string ⟨a.toArray⟩, .bool b]) = Ending.returned (.tuple #[.string ⟨m.1.toArray⟩, .bool m.2]) := by rw [h1, h2]

set_option maxHeartbeats 400000 in
theorem text_any (s : ByteArray) (e m : Int) (w : World) (hs : s.size ≤ 65536) (he1 : -65536 ≤ e) (he2 : e ≤ 65536) (hm : w.cell? ⟨0, 0, none⟩ = some (.int .i64 m)) :
    Calls Tryd.prog 7 #[.string s, .int .i64 e] w fun en w' => en = .returned (.tuple #[.string ⟨(sdec s.data.toList e).1.toArray⟩, .bool (sdec s.data.toList e).2]) ∧ Below w.heap.size w w' := by
  go_enter Tryd.func7, Tryd.ntmps7
  go_wp2_with fail
  refine (sdec_any s e m w hs he1 he2 hm).mono ?_
  rintro en w1 ⟨rfl, hb⟩
  obtain ⟨t, ht⟩ : ∃ t, t = (sdec s.data.toList e).1 := ⟨_, rfl⟩
  obtain ⟨ok, hok⟩ : ∃ ok, ok = (sdec s.data.toList e).2 := ⟨_, rfl⟩
  rw [← ht, ← hok]
  have Ht : Hid _ := ht
  have Hok : Hid _ := hok
  clear ht hok
  go_wp2
  go_ret2
  exact ⟨ret_text Ht.out.symm Hok.out.symm, hb.alloc hb.size _⟩

set_option maxHeartbeats 400000 in
theorem law_any (s : ByteArray) (e m : Int) (w : World) (hs : s.size ≤ 9223372036854775807) (hm : w.cell? ⟨0, 0, none⟩ = some (.int .i64 m))
    (law : s.size ≤ 65536 → -65536 ≤ e → e ≤ 65536 → sdec s.data.toList e = model s.data.toList e) :
    Calls Tryd.prog 3 #[.string s, .int .i64 e] w fun en w' => en = .returned (.bool true) ∧ Below w.heap.size w w' := by
  have LAW : Hid _ := law
  clear law
  by_cases h1 : (s.size : Int) ≤ 1048576
  · by_cases h2 : (s.size : Int) ≤ 65536
    · by_cases h3 : -65536 ≤ e
      · by_cases h4 : e ≤ 65536
        · have h := LAW.out (by omega) h3 h4
          go_enter Tryd.func3, Tryd.ntmps3
          go_wp2_with fail
          refine (zzBytes_any s e w hs).mono ?_
          rintro en w1 ⟨rfl, rfl⟩
          rw [decide_eq_true h1]
          clear h
          go_wp2_with fail
          refine (text_any s e m _ (by omega) h3 h4 hm).mono ?_
          rintro en w2 ⟨rfl, hb2⟩
          rw [LAW.out (by omega) h3 h4]
          obtain ⟨t, ht⟩ : ∃ t, t = (model s.data.toList e).1 := ⟨_, rfl⟩
          obtain ⟨ok, hok⟩ : ∃ ok, ok = (model s.data.toList e).2 := ⟨_, rfl⟩
          rw [← ht, ← hok]
          have Ht : Hid _ := ht
          have Hok : Hid _ := hok
          clear ht hok
          go_wp2_with fail
          refine (model_any s e _ (by omega) h3 h4).mono ?_
          rintro en w3 ⟨rfl, hb3⟩
          rw [← Ht.out, ← Hok.out]
          have hb4 := below_later hb2 hb3
          clear hb2 hb3
          go_wp2
          go_ret
          exact ⟨rfl, hb4⟩
        · go_enter Tryd.func3, Tryd.ntmps3
          go_wp2_with fail
          refine (zzBytes_any s e w hs).mono ?_
          rintro en w1 ⟨rfl, rfl⟩
          rw [decide_eq_true h1]
          go_wp2
          all_goals (go_ret; exact ⟨rfl, Below.refl _ _⟩)
      · go_enter Tryd.func3, Tryd.ntmps3
        go_wp2_with fail
        refine (zzBytes_any s e w hs).mono ?_
        rintro en w1 ⟨rfl, rfl⟩
        rw [decide_eq_true h1]
        go_wp2
        all_goals (go_ret; exact ⟨rfl, Below.refl _ _⟩)
    · go_enter Tryd.func3, Tryd.ntmps3
      go_wp2_with fail
      refine (zzBytes_any s e w hs).mono ?_
      rintro en w1 ⟨rfl, rfl⟩
      rw [decide_eq_true h1]
      go_wp2
      all_goals (go_ret; exact ⟨rfl, Below.refl _ _⟩)
  · go_enter Tryd.func3, Tryd.ntmps3
    go_wp2_with fail
    refine (zzBytes_any s e w hs).mono ?_
    rintro en w1 ⟨rfl, rfl⟩
    rw [decide_eq_false (by omega : ¬ (s.size : Int) ≤ 1048576)]
    go_wp2
    all_goals (go_ret; exact ⟨rfl, Below.refl _ _⟩)
end Go.Proofs.Qxb6601590aDoor
