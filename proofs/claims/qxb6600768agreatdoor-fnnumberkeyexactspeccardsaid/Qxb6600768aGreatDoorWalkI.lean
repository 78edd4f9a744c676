import Derived.Test.Qxb6600768aGreatDoorWalkH
import Derived.Test.Qxb6600768aGreatDoorWalkF
namespace Go.Proofs.Qxb6600768aGreatDoor
open Go.RowKit Go.Shelf

set_option maxRecDepth 20000 in
set_option maxHeartbeats 1000000 in
theorem string_any (z : Int) (w : World) (hsz : (dstr z.natAbs).size ≤ 4294967296) :
    Calls Tryz.prog 34 #[sgA z] w fun x w' => x = .returned (.string ⟨(Lib.itoa z).toArray⟩) ∧ Below w.heap.size w w' := by
  obtain ⟨d, hd⟩ : ∃ d, dstr z.natAbs = d := ⟨_, rfl⟩
  have hem : d.toList.isEmpty = decide (z.natAbs = 0) := by rw [← hd]; exact dstr_isEmpty _
  rw [hd] at hsz
  have hbig : ¬ 9223372036854775807 < 1 + d.size := by omega
  by_cases h0 : z = 0
  · have HR : Hid (Lib.itoa z = [48]) := hid (by rw [h0]; exact dec_zero)
    have hem2 : d.toList.isEmpty = true := by rw [hem, h0]; rfl
    unfold sgA
    rw [hd]
    clear hem hd h0
    go_enter Tryz.func34, Tryz.ntmps34
    go_wp2
    go_ret
    exact ⟨ret_s (by rw [HR.out]), (Below.refl _ _).alloc (Nat.le_refl _) _⟩
  · have hem2 : d.toList.isEmpty = false := by rw [hem]; exact decide_eq_false (by omega)
    by_cases hz : z < 0
    · have HR : Hid (Lib.itoa z = 45 :: d.data.toList) := hid (by rw [itoa_parts, decide_eq_true hz, dec_digs (by omega), ← hd]; rfl)
      unfold sgA
      rw [hd, decide_eq_true hz]
      clear hem hd h0
      go_enter Tryz.func34, Tryz.ntmps34
      go_wp2
      go_ret
      exact ⟨ret_s (bytes_inj _ _ (by rw [HR.out]; simp)), (Below.refl _ _).alloc (Nat.le_refl _) _⟩
    · have HR : Hid (Lib.itoa z = d.data.toList) := hid (by rw [itoa_parts, decide_eq_false hz, dec_digs (by omega), ← hd]; rfl)
      unfold sgA
      rw [hd, decide_eq_false hz]
      clear hem hd h0
      go_enter Tryz.func34, Tryz.ntmps34
      go_wp2
      go_ret
      exact ⟨ret_s (bytes_inj _ _ (by rw [HR.out])), (Below.refl _ _).alloc (Nat.le_refl _) _⟩

theorem tabOn {w w1 : World} (ht : Tab w) (hb : Below w.heap.size w w1) : Tab w1 := Lib.tabBelow_of_tabIs ht w1 hb
theorem itoa_esg (z : Int) : esg (sgn (decide (z < 0))) (decide (z < 0)) := by
  unfold esg sgn
  by_cases h : z < 0
  · rw [decide_eq_true h]; exact .inr (.inr ⟨rfl, rfl⟩)
  · rw [decide_eq_false h]; exact .inl ⟨rfl, rfl⟩
/-- parseInteger at FormatInt's text. -/
theorem parseItoa_any (z : Int) (w : World) : Calls Tryz.prog 32 #[.string ⟨(Lib.itoa z).toArray⟩] w fun x w' => x = .returned (sgA z) ∧ Below w.heap.size w w' := by
  obtain ⟨h1, h2, _⟩ := dec_spec z.natAbs
  have := parseInteger_any (sgn (decide (z < 0))) (Lib.decDigits z.natAbs) (decide (z < 0)) (itoa_esg z) h1 w
  rw [h2, sv_abs, ← itoa_parts] at this
  exact this

/-- The two blocks of 'plus': the receiver's copy and the result. -/
def plusW (w0 w : World) (s : Bool) : Prop :=
  Below w0.heap.size w0 w ∧ w0.heap.size + 1 < w.heap.size ∧ w.cell? ⟨w0.heap.size, 0, none⟩ = some (.bool s) ∧ w.cell? ⟨w0.heap.size + 1, 0, none⟩ = some (.bool false) ∧ w.cell? ⟨w0.heap.size + 1, 1, none⟩ = some (.string ⟨#[]⟩) ∧
  w.frozen? ⟨w0.heap.size + 1, 0, none⟩ = false ∧ w.frozen? ⟨w0.heap.size + 1, 1, none⟩ = false
theorem plusW_start (w : World) (s : Bool) (d : ByteArray) : plusW w ((w.alloc (.cells #[.bool s, .string d] 34)).alloc (.cells #[.bool false, .string ⟨#[]⟩] 34)) s := by
  refine ⟨((Below.refl _ _).alloc (Nat.le_refl _) _).alloc (by simp) _, by simp, ?_, ?_, ?_, ?_, ?_⟩ <;> go_simp
theorem plusW.on {w0 w w1 : World} {s : Bool} (h : plusW w0 w s) (hb : Below w.heap.size w w1) : plusW w0 w1 s := by
  obtain ⟨h1, h2, h3, h4, h5, h6, h7⟩ := h
  have hs := hb.size
  refine ⟨h1.trans (hb.mono h1.size), by omega, ?_, ?_, ?_, ?_, ?_⟩
  · rw [hb.cell (by show w0.heap.size < _; omega)]; exact h3
  · rw [hb.cell (by show w0.heap.size + 1 < _; omega)]; exact h4
  · rw [hb.cell (by show w0.heap.size + 1 < _; omega)]; exact h5
  · rw [hb.frozen (by show w0.heap.size + 1 < _; omega)]; exact h6
  · rw [hb.frozen (by show w0.heap.size + 1 < _; omega)]; exact h7

set_option maxRecDepth 20000 in
set_option maxHeartbeats 1000000 in
theorem plus_small (I n : Int) (w : World) (hn1 : -4194304 ≤ n) (hn2 : n ≤ 4194304) (hI : (dstr I.natAbs).size ≤ 18) (ht : Tab w) :
    Calls Tryz.prog 33 #[sgA I, .int .i64 n] w fun x w' => x = .returned (sgA (I + n)) ∧ Below w.heap.size w w' := by
  have hlt : I.natAbs < 1000000000000000000 := by
    have h1 := lt_pow_of_digs I.natAbs
    rw [dstr_size] at hI
    have h2 := Nat.pow_le_pow_right (n := 10) (by decide) hI
    omega
  have HTb := hid ht
  clear ht
  have hs := string_any I
  have HSt : Hid (∀ w : World, Calls Tryz.prog 34 #[sgA I] w fun x w' => x = .returned (.string ⟨(Lib.itoa I).toArray⟩) ∧ Below w.heap.size w w') := hid (fun w => string_any I w (by omega))
  clear hs
  obtain ⟨d, hd⟩ : ∃ d, dstr I.natAbs = d := ⟨_, rfl⟩
  obtain ⟨s, hs⟩ : ∃ s : Bool, decide (I < 0) = s := ⟨_, rfl⟩
  have e : sgA I = .agg #[.bool s, .string d] := by unfold sgA; rw [hd, hs]
  rw [hd] at hI
  rw [e]
  have HEq := hid e
  clear e hd hs
  have HP0 := hid (plusW_start w s d)
  go_enter Tryz.func33, Tryz.ntmps33
  go_wp2_with fail
  rw [← HEq.out]
  refine (HSt.out _).mono ?_
  rintro x w1 ⟨rfl, hb1⟩
  have HP1 := hid (HP0.out.on hb1)
  clear hb1 HP0
  go_wp2_with fail
  refine (parseInt_any I hlt _).mono ?_
  rintro x w2 ⟨rfl, hb2⟩
  have HP2 := hid (HP1.out.on hb2)
  clear hb2 HP1
  have hb1 : -9223372036854775808 ≤ I + n := by omega
  have hb2 : I + n ≤ 9223372036854775807 := by omega
  go_wp2_with fail
  refine (formatInt_any (I + n) hb1 hb2 _ (tabOn HTb.out HP2.out.1)).mono ?_
  rintro x w3 ⟨rfl, hb3⟩
  have HP3 := hid (HP2.out.on hb3)
  clear hb3 HP2
  go_wp2_with fail
  refine (parseItoa_any (I + n) _).mono ?_
  rintro x w4 ⟨rfl, hb4⟩
  have HP4 := hid (HP3.out.on hb4)
  clear hb4 HP3
  obtain ⟨k1, k2, k3, k4, k5, k6, k7⟩ := HP4.out
  unfold sgA
  obtain ⟨zs, hzs⟩ : ∃ zs : Bool, decide (I + n < 0) = zs := ⟨_, rfl⟩
  obtain ⟨zd, hzd⟩ : ∃ zd, dstr (I + n).natAbs = zd := ⟨_, rfl⟩
  have HR : Hid (sgA (I + n) = .agg #[.bool zs, .string zd]) := hid (by unfold sgA; rw [hzs, hzd])
  rw [hzs, hzd]
  have HB := hid k1
  clear hzs hzd k1
  go_wp2
  exact bodyPost_ret (v := .agg #[.bool zs, .string zd]) (by simp [results, Tryz.results33, go_sem, k4, k5]) rfl ⟨by rw [HR.out], (HB.out.setCell (by simp) _).setCell (by simp) _⟩
end Go.Proofs.Qxb6600768aGreatDoor
