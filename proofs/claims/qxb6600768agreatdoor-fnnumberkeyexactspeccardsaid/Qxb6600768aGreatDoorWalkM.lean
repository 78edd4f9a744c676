import Derived.Test.Qxb6600768aGreatDoorWalkL
namespace Go.Proofs.Qxb6600768aGreatDoor
open Go.RowKit Go.Shelf

theorem sv_natAbs (b : Bool) (n : Nat) : (sv b n).natAbs = n := by cases b <;> simp [sv]
theorem cut_any (s : ByteArray) (p q : List UInt8) (c : UInt8) (h : (s.data.toList = p ∧ q = []) ∨ s.data.toList = p ++ c :: q) (hc : ∀ x ∈ p, x ≠ c) (hs : s.size ≤ 4294967296) (w : World) :
    Calls Tryz.prog 28 #[.string s, .string ⟨#[c]⟩] w fun x w' => ∃ b, x = .returned (.tuple #[.string ⟨p.toArray⟩, .string ⟨q.toArray⟩, .bool b]) ∧ Below w.heap.size w w' := by
  rcases h with ⟨h, rfl⟩ | h
  · refine (cut_none s c (by rw [h]; exact hc) w).mono ?_
    rintro x w' ⟨rfl, rfl⟩
    exact ⟨false, by rw [bytes_mk h], Below.refl _ _⟩
  · refine (cut_found s p q c h hc hs w).mono ?_
    rintro x w' ⟨rfl, hb⟩
    exact ⟨true, rfl, hb⟩

set_option maxRecDepth 20000 in
set_option maxHeartbeats 4000000 in
theorem parseDec_any (s : ByteArray) (w : World) (hs : s.size ≤ 1048576) {neg en : Bool} {W fp f ep e : List UInt8} (hN : Num s.data.toList neg W fp f ep en e) (ht : Tab w) :
    Calls Tryz.prog 19 #[.string s] w fun x w' => x = .returned (decA neg W f en e) ∧ Below w.heap.size w w' := by
  have HTb := hid ht
  have HN := hid hN
  obtain ⟨hp1, hp2, hp3⟩ := sign_pre hN
  have HP1 := hid hp1
  have HP2 := hid hp2
  have HP3 := hid hp3
  obtain ⟨hq1, hq2, sg, hsg, hq3⟩ := low_parts hN
  have HQ1 := hid hq1
  have HQ2 := hid hq2
  have HSG := hid hsg
  have HQ3 := hid hq3
  have HSZ : Hid ((sgn neg).length + W.length + fp.length + ep.length = s.size) := hid (by rw [← size_eq_data, hN.1]; simp; omega)
  clear hN ht hp1 hp2 hp3 hq1 hq2 hq3 hsg
  have HW0 := hid (decW_start w false)
  go_enter Tryz.func19, Tryz.ntmps19
  go_wp2_with fail
  refine (cutPrefix_any _ _ _).mono ?_
  rintro x w1 ⟨rfl, hw1⟩
  obtain rfl := hw1.symm
  obtain ⟨U, hU⟩ : ∃ U, W ++ fp ++ ep = U := ⟨_, rfl⟩
  rw [show (⟨(Lib.trimPrefix s.data.toList (⟨#[45]⟩ : ByteArray).data.toList).toArray⟩ : ByteArray) = ⟨U.toArray⟩ from by rw [← hU, ← HP3.out],
    show Lib.hasPrefix s.data.toList (⟨#[45]⟩ : ByteArray).data.toList = neg from HP1.out]
  have HU := hid hU
  clear hU
  go_upto_if 20 with fail
  go_cut [4] (fun uv wc => uv = .string ⟨U.toArray⟩ ∧ decW w wc neg ⟨#[]⟩)
  case first =>
    cases neg with
    | true =>
      have HW1 := hid (decW_start w true)
      go_wp2
      go_meet
      case rel => exact ⟨rfl, HW1.out⟩
    | false =>
      have HE : Hid (s = ⟨U.toArray⟩) := hid (bytes_mk (by rw [← HU.out]; exact HP2.out rfl))
      go_wp2
      go_meet
      case rel => exact ⟨by rw [← HE.out], HW0.out⟩
  case rest =>
    obtain ⟨rfl, hdw⟩ := hcut
    have HW1 := hid hdw
    clear hdw HW0 HP1 HP2 HP3
    have HUl : Hid (U.length ≤ 1048576) := hid (by rw [← HU.out]; have := HSZ.out; simp; omega)
    go_wp2_with fail
    refine (toLower_any U _ (by have := HUl.out; omega) (by rw [← HU.out]; exact HQ1.out)).mono ?_
    rintro x w2 ⟨rfl, hb2⟩
    have HW2 := hid (HW1.out.on hb2)
    clear hb2 HW1
    obtain ⟨X, hX⟩ : ∃ X, sg ++ e = X := ⟨_, rfl⟩
    obtain ⟨M, hM⟩ : ∃ M, W ++ fp = M := ⟨_, rfl⟩
    rw [HU.out, hX, hM] at HQ3
    rw [hM] at HQ2
    have HX := hid hX
    have HM := hid hM
    have HXl : Hid (X.length ≤ 1048576) := hid (by
      rw [← hX]
      have h1 := HSZ.out
      rcases HQ3.out with ⟨_, h⟩ | h
      · rw [hX, h]; simp
      · have h2 := congrArg List.length h
        have h3 := HUl.out
        simp [Lib.toLowerA] at h2
        rw [hX]; omega)
    have HMl : Hid (M.length ≤ 1048576) := hid (by rw [← hM]; have := HSZ.out; simp; omega)
    clear hX hM
    have HXM : Hid (((Lib.toLowerA U) = M ∧ X = []) ∨ Lib.toLowerA U = M ++ 101 :: X) := HQ3
    have HFr : Hid ((M = W ∧ f = []) ∨ M = W ++ 46 :: f) := hid (by
      rw [← HM.out]
      rcases HN.out.2.2.1.2 with ⟨h1, h2⟩ | h
      · left; rw [h1, h2]; exact ⟨List.append_nil _, rfl⟩
      · right; rw [h])
    have HWD : Hid (W.all dgt = true) := hid HN.out.2.1
    have HDs : Hid ((W ++ f).all dgt = true) := hid (by rw [List.all_append, HN.out.2.1, HN.out.2.2.1.1]; rfl)
    have HDe : Hid (e.all dgt = true) := hid HN.out.2.2.2.1
    have HWl : Hid (W.length + f.length ≤ 1048576) := hid (by
      have h1 := HMl.out
      rcases HFr.out with ⟨h, h2⟩ | h
      · rw [h] at h1; rw [h2]; simpa using h1
      · rw [h] at h1; simp at h1; omega)
    clear HN HQ3 HQ1 HU HSZ
    go_wp2_with fail
    refine (cut_any ⟨(Lib.toLowerA U).toArray⟩ M X 101 HXM.out HQ2.out (by rw [Lib.size_mk]; simp [Lib.toLowerA]; have := HUl.out; omega) _).mono ?_
    rintro x w3 ⟨b1, rfl, hb3⟩
    have HW3 := hid (HW2.out.on hb3)
    clear hb3 HW2 HXM HQ2 HUl
    go_wp2_with fail
    refine (cut_any ⟨M.toArray⟩ W f 46 HFr.out (dig_ne46 HWD.out) (by rw [Lib.size_mk]; have := HMl.out; omega) _).mono ?_
    rintro x w4 ⟨b2, rfl, hb4⟩
    have HW4 := hid (HW3.out.on hb4)
    clear hb4 HW3
    have hfit : ¬ 9223372036854775807 < (⟨W.toArray⟩ : ByteArray).size + (⟨f.toArray⟩ : ByteArray).size := by
      rw [Lib.size_mk, Lib.size_mk]; have := HWl.out; omega
    have hfit2 : ¬ 9223372036854775807 < W.length + f.length := by have := HWl.out; omega
    go_wp2_with fail
    refine (trimLeftB_any _ _).mono ?_
    rintro x w5 ⟨rfl, hw5⟩
    obtain rfl := hw5.symm
    obtain ⟨D, hD⟩ : ∃ D, W ++ f = D := ⟨_, rfl⟩
    obtain ⟨T, hT⟩ : ∃ T, trim D = T := ⟨_, rfl⟩
    rw [show (⟨(trim ((⟨W.toArray⟩ : ByteArray) ++ (⟨f.toArray⟩ : ByteArray)).data.toList).toArray⟩ : ByteArray) = ⟨T.toArray⟩ from by rw [← hT, ← hD]; simp]
    have HTl : Hid (T.length ≤ 1048576) := hid (by
      rw [← hT, ← hD]
      have h1 := HWl.out
      have h2 : (trim (W ++ f)).length ≤ (W ++ f).length := by
        unfold trim
        exact List.Sublist.length_le (List.dropWhile_sublist _)
      rw [List.length_append] at h2
      omega)
    obtain ⟨Mi, hMi⟩ : ∃ Mi, Lib.trimRightB T 48 = Mi := ⟨_, rfl⟩
    have HMi : Hid (mid D = Mi) := hid (by unfold mid; rw [hT, hMi])
    have HD := hid hD
    have HT := hid hT
    clear hD hT
    go_upto_region 9 with fail
    go_cut [13] (fun dv wc => dv = .string ⟨T.toArray⟩ ∧ decW w wc neg ⟨Mi.toArray⟩)
    case first =>
      have HW5 := hid (HW4.out.setDig ⟨Mi.toArray⟩)
      obtain ⟨⟨a0, a1, a2, a3⟩, ⟨b0, b1, b2, b3⟩, fa, fb⟩ := HW4.out.facts
      go_wp2_with fail
      refine (trimRight_any T _ (by have := HTl.out; omega)).mono ?_
      rintro x w6 ⟨rfl, hw6⟩
      obtain rfl := hw6.symm
      rw [hMi]
      go_wp2
      go_meet
      case rel => exact ⟨rfl, HW5.out⟩
    case rest =>
      clear HW4
      obtain ⟨rfl, hdw⟩ := hcut
      have HW5 := hid hdw
      clear hdw
      obtain ⟨⟨a0, a1, a2, a3⟩, ⟨b0, b1, b2, b3⟩, fa, fb⟩ := HW5.out.facts
      by_cases hTn : T = []
      · have HR : Hid (decA neg W f en e = .agg #[.bool neg, .string ⟨#[]⟩, .bool false, .string ⟨#[]⟩]) := hid (by unfold decA; rw [if_pos (by rw [HD.out, HT.out, hTn])])
        have hME : Mi = [] := by rw [← HMi.out]; exact (mid_nil (by rw [← HD.out]; exact HDs.out)).2 (by rw [HT.out, hTn])
        clear hTn hMi
        subst hME
        have HB := hid HW5.out.1
        go_wp2
        exact bodyPost_ret (v := .agg #[.bool neg, .string ⟨#[]⟩, .bool false, .string ⟨#[]⟩]) (by simp [results, Tryz.results19, go_sem, a0, a1, a2, a3]) rfl ⟨by rw [HR.out], by repeat first | exact HB.out | refine Below.setCell ?_ (by simp) _⟩
      · have hMn : Mi.isEmpty = false := by
          rw [← HMi.out]
          cases hm : mid D with
          | nil => exact absurd ((mid_nil (by rw [← HD.out]; exact HDs.out)).1 hm) (by rw [HT.out]; exact hTn)
          | cons => rfl
        obtain ⟨z, hz⟩ : ∃ z : Int, sv en (val e) + ((T.length : Int) - (f.length : Int)) = z := ⟨_, rfl⟩
        have HR : Hid (decA neg W f en e = .agg #[.bool neg, .string ⟨Mi.toArray⟩, .bool (decide (z < 0)), .string (dstr z.natAbs)]) := hid (by
          unfold decA ptZ
          rw [if_neg (by rw [HD.out, HT.out]; exact hTn), HD.out, HT.out, hz, HMi.out])
        have HZ := hid hz
        have hf1 : f.length ≤ 1048576 := by have := HWl.out; omega
        have hT1 : T.length ≤ 1048576 := HTl.out
        clear hTn hMi hz a0 a1 a2 a3 b0 b1 b2 b3 fa fb
        obtain ⟨⟨a0, a1, a2, a3⟩, ⟨b0, b1, b2, b3⟩, fa, fb⟩ := HW5.out.facts
        go_wp2_with fail
        rw [show (⟨X.toArray⟩ : ByteArray) = ⟨(sg ++ e).toArray⟩ from by rw [HX.out]]
        refine (parseInteger_any sg e en HSG.out HDe.out _).mono ?_
        rintro x w7 ⟨rfl, hb7⟩
        have HW7 := hid (HW5.out.on hb7)
        clear hb7 HW5 a0 a1 a2 a3 b0 b1 b2 b3 fa fb
        go_wp2_with fail
        refine (plus_any (sv en (val e)) ((T.length : Int) - (f.length : Int)) _ (by omega) (by omega) (by
          rw [dstr_size, sv_natAbs]
          have h1 := digs_len_le (val_lt HDe.out)
          have h2 := HXl.out
          rw [← HX.out, List.length_append] at h2
          omega) (tabOn HTb.out HW7.out.1)).mono ?_
        rintro x w8 ⟨rfl, hb8⟩
        have HW8 := hid (HW7.out.on hb8)
        clear hb8 HW7
        rw [HZ.out]
        unfold sgA
        obtain ⟨zs, hzs⟩ : ∃ zs : Bool, decide (z < 0) = zs := ⟨_, rfl⟩
        obtain ⟨zd, hzd⟩ : ∃ zd, dstr z.natAbs = zd := ⟨_, rfl⟩
        rw [hzs, hzd]
        rw [hzs, hzd] at HR
        clear hzs hzd
        have HB := hid HW8.out.1
        obtain ⟨⟨a0, a1, a2, a3⟩, ⟨b0, b1, b2, b3⟩, fa, fb⟩ := HW8.out.facts
        go_wp2
        exact bodyPost_ret (v := .agg #[.bool neg, .string ⟨Mi.toArray⟩, .bool zs, .string zd]) (by simp [results, Tryz.results19, go_sem, a0, a1, a2, a3]) rfl ⟨by rw [HR.out], by repeat first | exact HB.out | refine Below.setCell ?_ (by simp) _⟩
end Go.Proofs.Qxb6600768aGreatDoor
