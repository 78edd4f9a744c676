import Derived.Test.Qxb6600768aGreatDoorWalkN
namespace Go.Proofs.Qxb6600768aGreatDoor
open Go.RowKit Go.Shelf

set_option maxHeartbeats 1000000 in
theorem bytes6_any (s : ByteArray) (w : World) (hs : s.size ≤ 9223372036854775807) :
    Calls Tryz.prog 6 #[.string s] w fun e w' => e = .returned (.bool (decide (s.size ≤ 1048576))) ∧ w' = w := by
  by_cases h : s.size ≤ 1048576
  · rw [decide_eq_true h]
    go_enter Tryz.func6, Tryz.ntmps6
    go_wp2
    go_ret
    exact ⟨rfl, rfl⟩
  · rw [decide_eq_false h]
    have h2 : 1048576 < s.size := by omega
    go_enter Tryz.func6, Tryz.ntmps6
    go_wp2
    go_ret
    exact ⟨rfl, rfl⟩

set_option maxRecDepth 20000 in
set_option maxHeartbeats 2000000 in
theorem law3_any (s : ByteArray) (w : World) (hs : s.size ≤ 9223372036854775807) (ht : Tab w) :
    Calls Tryz.prog 3 #[.string s] w fun e w' => e = .returned (.bool true) ∧ Below w.heap.size w w' := by
  by_cases h : s.size ≤ 1048576
  · have h2 : ¬ 1048576 < s.size := by omega
    have HTb := hid ht
    clear ht
    go_enter Tryz.func3, Tryz.ntmps3
    go_wp2_with fail
    refine (bytes6_any s _ hs).mono ?_
    rintro e1 w1 ⟨rfl, hw1⟩
    obtain rfl := hw1.symm
    rw [decide_eq_true h]
    go_wp2_with fail
    refine (isNum_any s _ h).mono ?_
    rintro e1 w1 ⟨b, rfl, hw1, hb⟩
    obtain rfl := hw1.symm
    cases b with
    | false =>
      go_wp2
      go_ret
      exact ⟨rfl, Below.refl _ _⟩
    | true =>
      obtain ⟨neg, W, fp, f, ep, en, e, hN⟩ := hb rfl
      have HN := hid hN
      clear hN hb
      obtain ⟨a, b, c, hA, hT⟩ := dec_parts neg W f en e
      have HP : Hid (∀ w, Tab w → Calls Tryz.prog 8 #[.string s] w fun x w' => x = .returned (.tuple #[.bool neg, .string a, .bool b, .string c]) ∧ Below w.heap.size w w') := hid (fun w ht => by rw [← hT]; exact zzParse_any s w h HN.out ht)
      have HM : Hid (∀ w, Calls Tryz.prog 9 #[.string s] w fun x w' => x = .returned (.tuple #[.bool neg, .string a, .bool b, .string c]) ∧ Below w.heap.size w w') := hid (fun w => by rw [← hT]; exact model_any s w h HN.out)
      clear hA hT
      go_wp2_with fail
      refine (HP.out _ HTb.out).mono ?_
      rintro e1 w1 ⟨rfl, hb1⟩
      go_wp2_with fail
      refine (HM.out _).mono ?_
      rintro e1 w2 ⟨rfl, hb2⟩
      have HB := hid (hb1.trans (hb2.mono hb1.size))
      clear hb1 hb2
      go_wp2
      go_ret
      exact ⟨rfl, HB.out⟩
  · go_enter Tryz.func3, Tryz.ntmps3
    go_wp2_with fail
    refine (bytes6_any s _ hs).mono ?_
    rintro e1 w1 ⟨rfl, hw1⟩
    obtain rfl := hw1.symm
    rw [decide_eq_false h]
    go_wp2
    go_ret
    exact ⟨rfl, Below.refl _ _⟩
end Go.Proofs.Qxb6600768aGreatDoor
