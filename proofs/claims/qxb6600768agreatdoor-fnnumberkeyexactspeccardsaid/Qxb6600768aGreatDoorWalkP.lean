import Derived.Test.Qxb6600768aGreatDoorWalkO
namespace Go.Proofs.Qxb6600768aGreatDoor
open Go.RowKit Go.Shelf

set_option maxHeartbeats 1000000 in
theorem bytes15_any (s : ByteArray) (w : World) (hs : s.size ≤ 9223372036854775807) :
    Calls Tryz.prog 15 #[.string s] w fun e w' => e = .returned (.bool (decide (s.size ≤ 1048576))) ∧ w' = w := by
  by_cases h : s.size ≤ 1048576
  · rw [decide_eq_true h]
    go_enter Tryz.func15, Tryz.ntmps15
    go_wp2
    go_ret
    exact ⟨rfl, rfl⟩
  · rw [decide_eq_false h]
    have h2 : 1048576 < s.size := by omega
    go_enter Tryz.func15, Tryz.ntmps15
    go_wp2
    go_ret
    exact ⟨rfl, rfl⟩

set_option maxRecDepth 20000 in
set_option maxHeartbeats 1000000 in
theorem signedDigits_any (z : Int) (w : World) (hsz : (dstr z.natAbs).size ≤ 4294967296) :
    Calls Tryz.prog 16 #[.bool (decide (z < 0)), .string (dstr z.natAbs)] w fun x w' => x = .returned (.string ⟨(Lib.itoa z).toArray⟩) ∧ w' = w := by
  obtain ⟨d, hd⟩ : ∃ d, dstr z.natAbs = d := ⟨_, rfl⟩
  have hem : d.toList.isEmpty = decide (z.natAbs = 0) := by rw [← hd]; exact dstr_isEmpty _
  rw [hd] at hsz
  have hbig : ¬ 9223372036854775807 < 1 + d.size := by omega
  rw [hd]
  by_cases h0 : z = 0
  · have HR : Hid (Lib.itoa z = [48]) := hid (by rw [h0]; exact dec_zero)
    have hem2 : d.toList.isEmpty = true := by rw [hem, h0]; rfl
    clear hem hd h0
    go_enter Tryz.func16, Tryz.ntmps16
    go_wp2
    go_ret
    exact ⟨ret_s (by rw [HR.out]), rfl⟩
  · have hem2 : d.toList.isEmpty = false := by rw [hem]; exact decide_eq_false (by omega)
    by_cases hz : z < 0
    · have HR : Hid (Lib.itoa z = 45 :: d.data.toList) := hid (by rw [itoa_parts, decide_eq_true hz, dec_digs (by omega), ← hd]; rfl)
      rw [decide_eq_true hz]
      clear hem hd h0
      go_enter Tryz.func16, Tryz.ntmps16
      go_wp2
      go_ret
      exact ⟨ret_s (bytes_inj _ _ (by rw [HR.out]; simp)), rfl⟩
    · have HR : Hid (Lib.itoa z = d.data.toList) := hid (by rw [itoa_parts, decide_eq_false hz, dec_digs (by omega), ← hd]; rfl)
      rw [decide_eq_false hz]
      clear hem hd h0
      go_enter Tryz.func16, Tryz.ntmps16
      go_wp2
      go_ret
      exact ⟨ret_s (bytes_inj _ _ (by rw [HR.out])), rfl⟩

/-- The key. -/
def keyL (neg : Bool) (W f : List UInt8) (en : Bool) (e : List UInt8) : List UInt8 :=
  if trim (W ++ f) = [] then [48] else sgn neg ++ ([48, 46] ++ (mid (W ++ f) ++ (101 :: Lib.itoa (ptZ W f en e))))

/-! ### Lengths -/
theorem trim_len (D : List UInt8) : (trim D).length ≤ D.length := by
  unfold trim
  exact List.Sublist.length_le (List.dropWhile_sublist _)
theorem mid_len (D : List UInt8) : (mid D).length ≤ D.length := by
  unfold mid Lib.trimRightB
  rw [List.length_reverse]
  refine Nat.le_trans (List.Sublist.length_le (List.dropWhile_sublist _)) ?_
  rw [List.length_reverse]
  exact trim_len D
theorem pow_room {n m k : Nat} (h : n < 10 ^ k) (hm : m ≤ n + 4194304) : m < 10 ^ (k + 8) := by
  have e : (10 : Nat) ^ 8 = 100000000 := rfl
  rw [Nat.pow_add, e]
  generalize 10 ^ k = p at h ⊢
  omega
theorem ptZ_size {W f e : List UInt8} {en : Bool} (hDe : e.all dgt = true) (hel : e.length ≤ 1048576) (hll : W.length + f.length ≤ 1048576) : (dstr (ptZ W f en e).natAbs).size ≤ 1048584 := by
  rw [dstr_size]
  have h1 := val_lt hDe
  have h2 : (ptZ W f en e).natAbs ≤ val e + 4194304 := by
    have ht := trim_len (W ++ f)
    rw [List.length_append] at ht
    unfold ptZ sv
    generalize (trim (W ++ f)).length = T at ht ⊢
    generalize val e = v
    cases en <;> simp <;> omega
  have h3 := digs_len_le (pow_room h1 h2)
  omega
theorem itoa_len (z : Int) : (Lib.itoa z).length ≤ (dstr z.natAbs).size + 2 := by
  rw [itoa_parts, dstr_size, List.length_append]
  have h1 : (sgn (decide (z < 0))).length ≤ 1 := by unfold sgn; split <;> simp
  have h2 : (Lib.decDigits z.natAbs).length ≤ (digs z.natAbs).length + 1 := by
    by_cases h : z.natAbs = 0
    · rw [h, dec_zero]; simp
    · rw [dec_digs h]; omega
  omega
theorem num_lens {s : ByteArray} {neg en : Bool} {W fp f ep e : List UInt8} (hs : s.size ≤ 1048576) (hN : Num s.data.toList neg W fp f ep en e) : W.length + f.length ≤ 1048576 ∧ e.length ≤ 1048576 := by
  have h1 : (sgn neg).length + W.length + fp.length + ep.length = s.size := by rw [← size_eq_data, hN.1]; simp; omega
  have h2 : f.length ≤ fp.length := by
    rcases hN.2.2.1.2 with ⟨_, h⟩ | h
    · rw [h]; simp
    · rw [h]; simp
  have h3 : e.length ≤ ep.length := by
    rcases hN.2.2.2.2 with ⟨_, h, _⟩ | ⟨c, sg, _, h, _⟩
    · rw [h]; simp
    · rw [h]; simp; omega
  omega
theorem num_mid {l : List UInt8} {neg en : Bool} {W fp f ep e : List UInt8} (hN : Num l neg W fp f ep en e) (hT : trim (W ++ f) ≠ []) : (mid (W ++ f)).isEmpty = false := by
  have hDs : (W ++ f).all dgt = true := by rw [List.all_append, hN.2.1, hN.2.2.1.1]; rfl
  cases hm : mid (W ++ f) with
  | nil => exact absurd ((mid_nil hDs).1 hm) hT
  | cons => rfl
end Go.Proofs.Qxb6600768aGreatDoor
