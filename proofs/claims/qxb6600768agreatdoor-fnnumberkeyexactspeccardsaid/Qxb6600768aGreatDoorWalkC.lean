import Derived.Test.Qxb6600768aGreatDoorWalkB
namespace Go.Proofs.Qxb6600768aGreatDoor
open Go.RowKit Go.Shelf

theorem sub_round {wr w : World} {B n k br br1 p q d : Nat} {suf a b : List UInt8} {S bv : Int} (hf : filled wr B n k suf w) (hk : k < n) (hd : d < 10) (hbr : br1 ≤ 1) (hbv : bv = br1) (hS : S = d) (he : p + 10 * br1 = br + q + d)
    (hI : lastv a k + br * 10 ^ k = lastv b k + val suf) (hA : lastv a (k + 1) = p * 10 ^ k + lastv a k) (hB : lastv b (k + 1) = q * 10 ^ k + lastv b k) :
    ∃ (c1 k1 : Nat) (suf1 : List UInt8), Value.int .i64 bv = .int .i64 c1 ∧ Value.int .i64 ((k : Int) + 1) = .int .i64 k1 ∧ k1 ≤ n ∧ c1 ≤ 1 ∧ filled (wr.setCell ⟨B, n - 1 - k, none⟩ (.int .u8 (48 + S))) B n k1 suf1 w ∧ lastv a k1 + c1 * 10 ^ k1 = lastv b k1 + val suf1 := by
  refine ⟨br1, k + 1, UInt8.ofNat (48 + d) :: suf, by rw [hbv], rfl, by omega, hbr, filled_store hf hk hd (48 + S) (by rw [hS]), ?_⟩
  rw [val_cons, dv_ofNat hd, hf.2.1, hA, hB, Nat.pow_succ]
  have h1 : (p + 10 * br1) * 10 ^ k = (br + q + d) * 10 ^ k := by rw [he]
  rw [Nat.add_mul, Nat.add_mul, Nat.add_mul] at h1
  have h2 : br1 * (10 ^ k * 10) = 10 * br1 * 10 ^ k := by
    rw [Nat.mul_comm 10 br1, Nat.mul_assoc, Nat.mul_comm 10 (10 ^ k)]
  omega

set_option maxRecDepth 20000 in
set_option maxHeartbeats 2000000 in
theorem subMag_any (a b : ByteArray) (w : World) (ha : a.data.toList.all dgt = true) (hb : b.data.toList.all dgt = true) (hsa : a.size ≤ 4294967295) (hsb : b.size ≤ 4294967295) (hba : b.size ≤ a.size) (hle : val b.data.toList ≤ val a.data.toList) :
    Calls Tryz.prog 25 #[.string a, .string b] w fun e w' => e = .returned (.string ⟨(digs (val a.data.toList - val b.data.toList)).toArray⟩) ∧ Below w.heap.size w w' := by
  have HDa := hid ha
  have HDb := hid hb
  have HLE := hid hle
  obtain ⟨i5, hi5, hz0, hz1, hz2⟩ := info_parts info5
  clear ha hb hle
  go_enter Tryz.func25, Tryz.ntmps25
  go_wp2_with (at_make; refine wpList_make_full _ rfl _ _ 39 rfl w.heap.size 5 i5 (.int .u8 0) 1 Tryz.underlying39 hi5 hz0 hz1 _ _ _ _ a.size rfl rfl ?m1 ?m2 ?m3 ?m4 ?m5 ?_)
  case m1 => rfl
  case m2 => rfl
  case m3 => first | omega | (rw [hz2]; omega)
  case m4 => unfold maxLen; omega
  case m5 => exact Nat.le_refl _
  intro w1 hown1 hgrow1
  have HF0 := hid (filled_start hown1 hgrow1)
  clear hown1 hgrow1
  go_wp2_with fail
  go_loopw [8, 9] (fun cv kv wr => ∃ (c k : Nat) (suf : List UInt8), cv = .int .i64 c ∧ kv = .int .i64 k ∧ k ≤ a.size ∧ c ≤ 1 ∧ filled wr w.heap.size a.size k suf w ∧ lastv a.data.toList k + c * 10 ^ k = lastv b.data.toList k + val suf) (fun _ kv _ => a.size - (intOf kv).toNat)
  case atStart => exact ⟨0, 0, [], rfl, rfl, Nat.zero_le _, Nat.zero_le _, HF0.out, by rw [lastv_zero, lastv_zero, val_nil]⟩
  case round =>
    obtain ⟨c, k, suf, rfl, rfl, hk, hc, hf, hI⟩ := hrel
    have HF := hid hf
    have HI := hid hI
    have HS := hid hf.2.1
    clear hf hI HF0
    by_cases hlt : k < a.size
    · obtain ⟨v, hcell, hfroz⟩ := filled_cell HF.out (by omega)
      have e2 : ((a.size : Int) - 1 - (k : Int)).toNat = a.size - 1 - k := by omega
      obtain ⟨x, hx⟩ : ∃ x : Int, ((a[a.size - 1 - k]'(by omega)).toNat : Int) = x := ⟨_, rfl⟩
      obtain ⟨p, hp, hxp, hA⟩ := lastv_dig HDa.out hlt hx
      have x1 : 48 ≤ x := by omega
      have x2 : x ≤ 57 := by omega
      have HX := hid hxp
      clear hxp
      by_cases hkb : k < b.size
      · have e3 : ((b.size : Int) - 1 - (k : Int)).toNat = b.size - 1 - k := by omega
        obtain ⟨y, hy⟩ : ∃ y : Int, ((b[b.size - 1 - k]'(by omega)).toNat : Int) = y := ⟨_, rfl⟩
        obtain ⟨q, hq, hyq, hB⟩ := lastv_dig HDb.out hkb hy
        have y1 : 48 ≤ y := by omega
        have y2 : y ≤ 57 := by omega
        have HY := hid hyq
        clear hyq
        by_cases hneg : x - 48 - (c : Int) - (y - 48) < 0
        · obtain ⟨d, hd⟩ : ∃ d : Nat, x - 48 - (c : Int) - (y - 48) + 10 = d := ⟨(x - 48 - (c : Int) - (y - 48) + 10).toNat, by omega⟩
          have hx3 := HX.out
          have hy3 := HY.out
          have HR := fun S hS => sub_round (S := S) (bv := 1) (br1 := 1) (d := d) HF.out hlt (by omega) (by omega) rfl hS (by omega) HI.out hA hB
          have HD := hid hd
          clear hA hB hd hx3 hy3
          go_wp2
          go_roundw
          case rel => exact HR _ HD.out
          case measure => simp [intOf]; omega
        · obtain ⟨d, hd⟩ : ∃ d : Nat, x - 48 - (c : Int) - (y - 48) = d := ⟨(x - 48 - (c : Int) - (y - 48)).toNat, by omega⟩
          have hx3 := HX.out
          have hy3 := HY.out
          have HR := fun S hS => sub_round (S := S) (bv := 0) (br1 := 0) (d := d) HF.out hlt (by omega) (by omega) rfl hS (by omega) HI.out hA hB
          have HD := hid hd
          clear hA hB hd hx3 hy3
          go_wp2
          go_roundw
          case rel => exact HR _ HD.out
          case measure => simp [intOf]; omega
      · have hB := lastv_past0 (l := b.data.toList) (k := k) (by rw [size_eq_data]; omega)
        by_cases hneg : x - 48 - (c : Int) < 0
        · obtain ⟨d, hd⟩ : ∃ d : Nat, x - 48 - (c : Int) + 10 = d := ⟨(x - 48 - (c : Int) + 10).toNat, by omega⟩
          have hx3 := HX.out
          have HR := fun S hS => sub_round (S := S) (bv := 1) (br1 := 1) (d := d) HF.out hlt (by omega) (by omega) rfl hS (by omega) HI.out hA hB
          have HD := hid hd
          clear hA hB hd hx3
          go_wp2
          go_roundw
          case rel => exact HR _ HD.out
          case measure => simp [intOf]; omega
        · obtain ⟨d, hd⟩ : ∃ d : Nat, x - 48 - (c : Int) = d := ⟨(x - 48 - (c : Int)).toNat, by omega⟩
          have hx3 := HX.out
          have HR := fun S hS => sub_round (S := S) (bv := 0) (br1 := 0) (d := d) HF.out hlt (by omega) (by omega) rfl hS (by omega) HI.out hA hB
          have HD := hid hd
          clear hA hB hd hx3
          go_wp2
          go_roundw
          case rel => exact HR _ HD.out
          case measure => simp [intOf]; omega
    · obtain rfl : k = a.size := by omega
      have hcv := filled_done HF.out
      have HT : Hid (trim suf = digs (val a.data.toList - val b.data.toList)) := hid (by
        rw [trim_digs HF.out.2.2.1]
        have h1 := HI.out
        have h2 := val_lt HF.out.2.2.1
        rw [lastv_all (by rw [size_eq_data]; omega), lastv_all (by rw [size_eq_data]; omega)] at h1
        rw [HS.out] at h2
        have h3 := HLE.out
        have h4 : c = 0 := by
          rcases Nat.eq_zero_or_pos c with h | h
          · exact h
          · obtain rfl : c = 1 := by omega
            omega
        subst h4
        congr 1
        omega)
      go_wp2_with fail
      refine (trimZeros_any ⟨suf.toArray⟩ _ (by rw [← size_eq_data]; show suf.length ≤ _; rw [HS.out]; omega)).mono ?_
      rintro e w2 ⟨rfl, rfl⟩
      go_wp2
      go_ret
      exact ⟨ret_s (by show ByteArray.mk (trim suf).toArray = _; rw [HT.out]), HF.out.1⟩
end Go.Proofs.Qxb6600768aGreatDoor
