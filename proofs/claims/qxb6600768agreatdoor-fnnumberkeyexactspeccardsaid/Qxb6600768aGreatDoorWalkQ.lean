import Derived.Test.Qxb6600768aGreatDoorWalkP
namespace Go.Proofs.Qxb6600768aGreatDoor
open Go.RowKit Go.Shelf

set_option maxRecDepth 20000 in
set_option maxHeartbeats 2000000 in
theorem numberKey_any (s : ByteArray) (w : World) (hs : s.size ≤ 1048576) {neg en : Bool} {W fp f ep e : List UInt8} (hN : Num s.data.toList neg W fp f ep en e) (ht : Tab w) :
    Calls Tryz.prog 26 #[.string s] w fun x w' => x = .returned (.string ⟨(keyL neg W f en e).toArray⟩) ∧ Below w.heap.size w w' := by
  have hp := parseDec_any s w hs hN ht
  obtain ⟨hll, hel⟩ := num_lens hs hN
  have hDe : e.all dgt = true := hN.2.2.2.1
  by_cases hT : trim (W ++ f) = []
  · have HR : Hid (keyL neg W f en e = [48]) := hid (by unfold keyL; rw [if_pos hT])
    unfold decA at hp
    rw [if_pos hT] at hp
    have HP := hid hp
    clear hp hT hN ht
    go_enter Tryz.func26, Tryz.ntmps26
    go_wp2_with fail
    refine HP.out.mono ?_
    rintro x w1 ⟨rfl, hb1⟩
    have HB := hid hb1
    have hbs := hb1.size
    clear hb1
    go_wp2
    go_ret
    exact ⟨ret_s (by rw [HR.out]), HB.out.alloc HB.out.size _⟩
  · have hMn := num_mid hN hT
    have hzb := ptZ_size (en := en) hDe hel hll
    have hMl : (mid (W ++ f)).length ≤ 1048576 := by have := mid_len (W ++ f); rw [List.length_append] at this; omega
    clear hN ht hDe
    obtain ⟨z, hz⟩ : ∃ z : Int, ptZ W f en e = z := ⟨_, rfl⟩
    obtain ⟨Mi, hMi⟩ : ∃ Mi, mid (W ++ f) = Mi := ⟨_, rfl⟩
    have HR0 : keyL neg W f en e = sgn neg ++ ([48, 46] ++ (Mi ++ (101 :: Lib.itoa z))) := by unfold keyL; rw [if_neg hT, hMi, hz]
    unfold decA at hp
    rw [if_neg hT, hz, hMi] at hp
    rw [hMi] at hMn hMl
    rw [hz] at hzb
    have hil := itoa_len z
    have hst := fun w => string_any z w (by omega)
    unfold sgA at hst
    obtain ⟨zs, hzs⟩ : ∃ zs : Bool, decide (z < 0) = zs := ⟨_, rfl⟩
    obtain ⟨zd, hzd⟩ : ∃ zd, dstr z.natAbs = zd := ⟨_, rfl⟩
    obtain ⟨ST, hST⟩ : ∃ ST : ByteArray, (⟨(Lib.itoa z).toArray⟩ : ByteArray) = ST := ⟨_, rfl⟩
    rw [hzs, hzd] at hp hst
    rw [hST] at hst
    have hSl : ST.size ≤ 1048586 := by rw [← hST, Lib.size_mk]; omega
    have HST : Hid (ST.data.toList = Lib.itoa z) := hid (by rw [← hST])
    have HP := hid hp
    have HSt := hid hst
    have HR := hid HR0
    clear hp hst HR0 hST hzs hzd hz hMi hil hzb hT
    go_enter Tryz.func26, Tryz.ntmps26
    go_wp2_with fail
    refine HP.out.mono ?_
    rintro x w1 ⟨rfl, hb1⟩
    have HB := hid hb1
    clear hb1
    go_upto_if 11 with fail
    go_cut [4] (fun sv wc => sv = .string ⟨(sgn neg).toArray⟩ ∧ wc = w1.alloc (.cells #[.bool neg, .string ⟨Mi.toArray⟩, .bool zs, .string zd] 36))
    case first =>
      cases neg
      · go_wp2
        go_meet
        case rel => exact ⟨rfl, rfl⟩
      · go_wp2
        go_meet
        case rel => exact ⟨rfl, rfl⟩
    case rest =>
      obtain ⟨rfl, hwc⟩ := hcut
      obtain ⟨S, hS⟩ : ∃ S : ByteArray, (⟨(sgn neg).toArray⟩ : ByteArray) = S := ⟨_, rfl⟩
      obtain ⟨MB, hMB⟩ : ∃ MB : ByteArray, (⟨Mi.toArray⟩ : ByteArray) = MB := ⟨_, rfl⟩
      have HS : Hid (S.data.toList = sgn neg) := hid (by rw [← hS])
      have HMB : Hid (MB.data.toList = Mi) := hid (by rw [← hMB])
      have hSz : S.size ≤ 1 := by rw [← hS, Lib.size_mk]; unfold sgn; split <;> simp
      have hMz : MB.size ≤ 1048576 := by rw [← hMB, Lib.size_mk]; exact hMl
      rw [hMB] at hwc
      rw [hS]
      clear hS hMB
      have k1 : wc.cell? ⟨w1.heap.size, 1, none⟩ = some (.string MB) := by rw [hwc]; go_simp
      have k2 : wc.cell? ⟨w1.heap.size, 2, none⟩ = some (.bool zs) := by rw [hwc]; go_simp
      have k3 : wc.cell? ⟨w1.heap.size, 3, none⟩ = some (.string zd) := by rw [hwc]; go_simp
      have HB2 : Hid (Below w.heap.size w wc) := hid (by rw [hwc]; exact HB.out.alloc HB.out.size _)
      have hBs : w1.heap.size < wc.heap.size := by rw [hwc]; simp
      clear hwc HB
      have f1 : ¬ 9223372036854775807 < S.size + 2 := by omega
      have f2 : ¬ 9223372036854775807 < S.size + 2 + MB.size := by omega
      have f3 : ¬ 9223372036854775807 < S.size + 2 + MB.size + 1 := by omega
      have f4 : ¬ 9223372036854775807 < S.size + 2 + MB.size + 1 + ST.size := by omega
      go_wp2
      go_region_with (
        refine (HSt.out _).mono ?_
        rintro x w4 ⟨rfl, hb4⟩
        have g1 : w4.cell? ⟨w1.heap.size, 1, none⟩ = some (.string MB) := (hb4.cell (p := ⟨w1.heap.size, 1, none⟩) (show w1.heap.size < _ from hBs)).trans k1)
      all_goals go_wp2
      all_goals refine bodyPost_ret (v := .string (S ++ ⟨#[48, 46]⟩ ++ MB ++ ⟨#[101]⟩ ++ ST)) (by simp [results, Tryz.results26, go_sem]) rfl ⟨ret_s (bytes_inj _ _ (by rw [HR.out]; simp [HS.out, HMB.out, HST.out])), ?_⟩
      all_goals first | exact HB2.out.drew.trans (hb4.mono HB2.out.drew.size) | exact HB2.out.trans (hb4.mono HB2.out.size) | exact (below_drewN HB2.out _).trans (hb4.mono (below_drewN HB2.out _).size)
end Go.Proofs.Qxb6600768aGreatDoor
