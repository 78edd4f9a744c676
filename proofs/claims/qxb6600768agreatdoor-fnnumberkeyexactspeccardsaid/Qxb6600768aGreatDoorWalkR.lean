import Derived.Test.Qxb6600768aGreatDoorWalkQ
namespace Go.Proofs.Qxb6600768aGreatDoor
open Go.RowKit Go.Shelf

set_option maxHeartbeats 1000000 in
theorem zzKey_any (s : ByteArray) (w : World) (hs : s.size ≤ 1048576) {neg en : Bool} {W fp f ep e : List UInt8} (hN : Num s.data.toList neg W fp f ep en e) (ht : Tab w) :
    Calls Tryz.prog 17 #[.string s] w fun x w' => x = .returned (.string ⟨(keyL neg W f en e).toArray⟩) ∧ Below w.heap.size w w' := by
  have hp := numberKey_any s w hs hN ht
  obtain ⟨K, hK⟩ : ∃ K : ByteArray, (⟨(keyL neg W f en e).toArray⟩ : ByteArray) = K := ⟨_, rfl⟩
  rw [hK] at hp ⊢
  have HP := hid hp
  clear hp hN ht hK
  go_enter Tryz.func17, Tryz.ntmps17
  go_wp2_with fail
  refine HP.out.mono ?_
  rintro x w1 ⟨rfl, hb1⟩
  have HB := hid hb1
  clear hb1
  go_wp2
  go_ret
  exact ⟨rfl, HB.out⟩

set_option maxRecDepth 20000 in
set_option maxHeartbeats 2000000 in
theorem law5_any (s : ByteArray) (w : World) (hs : s.size ≤ 9223372036854775807) (ht : Tab w) :
    Calls Tryz.prog 5 #[.string s] w fun e w' => e = .returned (.bool true) ∧ Below w.heap.size w w' := by
  by_cases h : s.size ≤ 1048576
  · have h2 : ¬ 1048576 < s.size := by omega
    have HTb := hid ht
    clear ht
    go_enter Tryz.func5, Tryz.ntmps5
    go_wp2_with fail
    refine (bytes15_any s _ hs).mono ?_
    rintro e1 w1 ⟨rfl, hw1⟩
    obtain rfl := hw1.symm
    rw [decide_eq_true h]
    go_wp2_with fail
    refine (isNum_any s _ h).mono ?_
    rintro e1 w1 ⟨b, rfl, hw1, hb⟩
    obtain rfl := hw1.symm
    cases b with
    | false =>
      go_wp2
      go_ret
      exact ⟨rfl, Below.refl _ _⟩
    | true =>
      obtain ⟨neg, W, fp, f, ep, en, e, hN⟩ := hb rfl
      have hM := fun w => model_any s w h hN
      have hK := fun w ht => zzKey_any s w h hN ht
      obtain ⟨hll, hel⟩ := num_lens h hN
      have hDe : e.all dgt = true := hN.2.2.2.1
      clear hb
      by_cases hT : trim (W ++ f) = []
      · unfold decT at hM
        unfold keyL at hK
        rw [if_pos hT] at hM hK
        have HM : Hid (∀ w, Calls Tryz.prog 9 #[.string s] w fun x w' => x = .returned (.tuple #[.bool neg, .string ⟨#[]⟩, .bool false, .string ⟨#[]⟩]) ∧ Below w.heap.size w w') := hid hM
        have HK : Hid (∀ w, Tab w → Calls Tryz.prog 17 #[.string s] w fun x w' => x = .returned (.string ⟨#[48]⟩) ∧ Below w.heap.size w w') := hid hK
        clear hM hK hT hDe hel hll hN
        go_wp2_with fail
        refine (HM.out _).mono ?_
        rintro e1 w1 ⟨rfl, hb1⟩
        have HB := hid hb1
        clear hb1
        go_wp2_with fail
        refine (HK.out _ (tabOn HTb.out HB.out)).mono ?_
        rintro e1 w2 ⟨rfl, hb2⟩
        have HB2 := hid (HB.out.trans (hb2.mono HB.out.size))
        clear hb2 HB
        go_wp2
        go_ret
        exact ⟨rfl, HB2.out⟩
      · have hMn := num_mid hN hT
        have hzb := ptZ_size (en := en) hDe hel hll
        have hMl : (mid (W ++ f)).length ≤ 1048576 := by have := mid_len (W ++ f); rw [List.length_append] at this; omega
        unfold decT at hM
        unfold keyL at hK
        rw [if_neg hT] at hM hK
        clear hN hT hDe
        obtain ⟨z, hz⟩ : ∃ z : Int, ptZ W f en e = z := ⟨_, rfl⟩
        obtain ⟨Mi, hMi⟩ : ∃ Mi, mid (W ++ f) = Mi := ⟨_, rfl⟩
        rw [hz, hMi] at hM hK
        rw [hMi] at hMn hMl
        rw [hz] at hzb
        clear hz hMi hel hll
        have hil := itoa_len z
        have hst := fun w => signedDigits_any z w (by omega)
        obtain ⟨zs, hzs⟩ : ∃ zs : Bool, decide (z < 0) = zs := ⟨_, rfl⟩
        obtain ⟨zd, hzd⟩ : ∃ zd, dstr z.natAbs = zd := ⟨_, rfl⟩
        obtain ⟨ST, hST⟩ : ∃ ST : ByteArray, (⟨(Lib.itoa z).toArray⟩ : ByteArray) = ST := ⟨_, rfl⟩
        rw [hzs, hzd] at hM hst
        rw [hST] at hst
        have hSl : ST.size ≤ 1048586 := by rw [← hST, Lib.size_mk]; omega
        have HST : Hid (ST.data.toList = Lib.itoa z) := hid (by rw [← hST])
        have HM := hid hM
        have HK := hid hK
        have HSt := hid hst
        clear hM hK hst hST hzs hzd hil hzb
        go_wp2_with fail
        refine (HM.out _).mono ?_
        rintro e1 w1 ⟨rfl, hb1⟩
        have HB := hid hb1
        clear hb1 HM
        go_upto_if 27 with fail
        go_cut [8] (fun sv wc => sv = .string ⟨(sgn neg).toArray⟩ ∧ wc = w1)
        case first =>
          cases neg
          · go_wp2
            go_meet
            case rel => exact ⟨rfl, rfl⟩
          · go_wp2
            go_meet
            case rel => exact ⟨rfl, rfl⟩
        case rest =>
          obtain ⟨rfl, hwc⟩ := hcut
          obtain rfl := hwc.symm
          obtain ⟨S, hS⟩ : ∃ S : ByteArray, (⟨(sgn neg).toArray⟩ : ByteArray) = S := ⟨_, rfl⟩
          obtain ⟨MB, hMB⟩ : ∃ MB : ByteArray, (⟨Mi.toArray⟩ : ByteArray) = MB := ⟨_, rfl⟩
          have hSz : S.size ≤ 1 := by rw [← hS, Lib.size_mk]; unfold sgn; split <;> simp
          have hMz : MB.size ≤ 1048576 := by rw [← hMB, Lib.size_mk]; exact hMl
          have hKe : (⟨(sgn neg ++ ([48, 46] ++ (Mi ++ 101 :: Lib.itoa z))).toArray⟩ : ByteArray) = S ++ ⟨#[48, 46]⟩ ++ MB ++ ⟨#[101]⟩ ++ ST := bytes_inj _ _ (by rw [← hS, ← hMB]; simp [HST.out])
          have hK2 := HK.out
          rw [hKe] at hK2
          have HK2 := hid hK2
          rw [hMB, hS]
          clear hS hMB hKe hK2 HK
          have f1 : ¬ 9223372036854775807 < S.size + 2 := by omega
          have f2 : ¬ 9223372036854775807 < S.size + 2 + MB.size := by omega
          have f3 : ¬ 9223372036854775807 < S.size + 2 + MB.size + 1 := by omega
          have f4 : ¬ 9223372036854775807 < S.size + 2 + MB.size + 1 + ST.size := by omega
          go_wp2_with fail
          refine (HSt.out _).mono ?_
          rintro e1 w2 ⟨rfl, hw2⟩
          obtain rfl := hw2.symm
          go_wp2_with fail
          refine (HK2.out _ (tabOn HTb.out HB.out)).mono ?_
          rintro e1 w2 ⟨rfl, hb2⟩
          have HB2 := hid (HB.out.trans (hb2.mono HB.out.size))
          clear hb2 HB
          go_wp2
          go_ret
          exact ⟨rfl, HB2.out⟩
  · go_enter Tryz.func5, Tryz.ntmps5
    go_wp2_with fail
    refine (bytes15_any s _ hs).mono ?_
    rintro e1 w1 ⟨rfl, hw1⟩
    obtain rfl := hw1.symm
    rw [decide_eq_false h]
    go_wp2
    go_ret
    exact ⟨rfl, Below.refl _ _⟩
end Go.Proofs.Qxb6600768aGreatDoor
