import Derived.Test.Qxb6600768aGreatDoorPlainB
namespace Go.Proofs.Qxb6600768aGreatDoor
open Go.RowKit Go.Shelf

/-! ### Numbers as texts -/
theorem le_valFrom (a : Nat) (l : List UInt8) : a ≤ valFrom a l := by
  rw [valFrom_eq]
  have : a * 1 ≤ a * 10 ^ l.length := Nat.mul_le_mul_left _ (Nat.one_le_pow _ _ (by decide))
  omega
theorem parseM : ∀ (l : List UInt8) (a : Nat), l.all dgt = true → valFrom a l < 1000000000000000000 → Lib.parseUintM (2 ^ 64 - 1) a l = .ok (valFrom a l)
  | [], a, _, _ => rfl
  | c :: l, a, h, hv => by
    rw [List.all_cons, Bool.and_eq_true] at h
    have hc := dgt_iff.1 h.1
    have h1 : valFrom a (c :: l) = valFrom (a * 10 + dv c) l := rfl
    rw [h1] at hv ⊢
    have h2 := le_valFrom (a * 10 + dv c) l
    have h3 : dv c = c.toNat - 48 := rfl
    unfold Lib.parseUintM
    rw [if_pos ⟨hc.1, hc.2⟩, if_neg (by omega), if_neg (by omega)]
    exact parseM l _ h.2 hv
theorem digs_ne {n : Nat} (h : n ≠ 0) : digs n ≠ [] := fun e => h (digs_nil.1 e)
theorem dec_digs {n : Nat} (h : n ≠ 0) : Lib.decDigits n = digs n := by unfold digs; rw [if_neg h]
theorem dec_zero : Lib.decDigits 0 = [48] := by rw [Lib.decDigits_one (by decide)]; rfl
theorem dec_spec (n : Nat) : (Lib.decDigits n).all dgt = true ∧ val (Lib.decDigits n) = n ∧ Lib.decDigits n ≠ [] := by
  by_cases h : n = 0
  · subst h; rw [dec_zero]; exact ⟨rfl, rfl, by simp⟩
  · rw [dec_digs h]; exact ⟨digs_dgt n, val_digs n, digs_ne h⟩
theorem itoa_parts (z : Int) : Lib.itoa z = sgn (decide (z < 0)) ++ Lib.decDigits z.natAbs := by
  unfold Lib.itoa sgn
  by_cases h : z < 0
  · rw [if_pos h, if_pos (by simpa using h)]; rfl
  · rw [if_neg h, if_neg (by simpa using h), show z.toNat = z.natAbs by omega]; rfl
theorem parseUint_dec {n : Nat} (h : n < 1000000000000000000) : Lib.parseUintB 64 (Lib.decDigits n) = .ok n := by
  obtain ⟨h1, h2, h3⟩ := dec_spec n
  unfold Lib.parseUintB
  rw [if_neg h3, parseM _ _ h1 (by show val _ < _; rw [h2]; exact h)]
  show Lib.NumEnd.ok (val _) = _
  rw [h2]
theorem parse_itoa {z : Int} (h : z.natAbs < 1000000000000000000) : Lib.parseIntB 64 (Lib.itoa z) = .ok z := by
  have hu := parseUint_dec h
  obtain ⟨h1, h2, h3⟩ := dec_spec z.natAbs
  rw [itoa_parts]
  by_cases hz : z < 0
  · rw [show sgn (decide (z < 0)) = [45] by rw [decide_eq_true hz]; rfl]
    show Lib.parseIntB 64 (45 :: Lib.decDigits z.natAbs) = _
    unfold Lib.parseIntB
    simp only [show (45 : UInt8).toNat = 45 from rfl, or_true, if_true]
    rw [hu]
    simp only [not_true_eq_false, false_and, if_false, true_and]
    rw [if_neg (by omega)]
    congr 1
    omega
  · rw [show sgn (decide (z < 0)) = [] by rw [decide_eq_false hz]; rfl, List.nil_append]
    cases hd : Lib.decDigits z.natAbs with
    | nil => exact absurd hd h3
    | cons c r =>
      have hc : dgt c = true := by
        rw [hd, List.all_cons, Bool.and_eq_true] at h1
        exact h1.1
      have hcd := dgt_iff.1 hc
      unfold Lib.parseIntB
      have e1 : ¬ (c.toNat = 43 ∨ c.toNat = 45) := by omega
      have e2 : ¬ c.toNat = 45 := by omega
      simp only [if_neg e1]
      rw [← hd, hu]
      simp only [e2, not_false_eq_true, true_and, false_and, if_false]
      rw [if_neg (by omega)]
      congr 1
      omega

/-! ### Library calls -/
theorem cutPrefix_any (s p : ByteArray) (w : World) :
    Calls Tryz.prog 27 #[.string s, .string p] w fun e w' => e = .returned (.tuple #[.string ⟨(Lib.trimPrefix s.data.toList p.data.toList).toArray⟩, .bool (Lib.hasPrefix s.data.toList p.data.toList)]) ∧ w' = w :=
  Any.strings_CutPrefix Tryz.lays103 s p w
theorem trimPrefix_any (s p : ByteArray) (w : World) :
    Calls Tryz.prog 50 #[.string s, .string p] w fun e w' => e = .returned (.string ⟨(Lib.trimPrefix s.data.toList p.data.toList).toArray⟩) ∧ w' = w :=
  Any.strings_TrimPrefix Tryz.lays101 s p w
theorem trimLeft_any (l : List UInt8) (w : World) :
    Calls Tryz.prog 30 #[.string ⟨l.toArray⟩, .string ⟨#[48]⟩] w fun e w' => e = .returned (.string ⟨(trim l).toArray⟩) ∧ w' = w :=
  Any.strings_TrimLeft_one Tryz.lays161 ⟨l.toArray⟩ 48 (by decide) w
theorem trimRight_any (l : List UInt8) (w : World) (hl : l.length ≤ 4294967296) :
    Calls Tryz.prog 31 #[.string ⟨l.toArray⟩, .string ⟨#[48]⟩] w fun e w' => e = .returned (.string ⟨(Lib.trimRightB l 48).toArray⟩) ∧ w' = w :=
  Any.strings_TrimRight_one Tryz.lays162 ⟨l.toArray⟩ 48 (by decide) w (by rw [Lib.size_mk]; omega)
theorem toLower_any (l : List UInt8) (w : World) (hl : l.length ≤ 4294967296) (ha : ∀ x ∈ l, x.toNat < 128) :
    Calls Tryz.prog 29 #[.string ⟨l.toArray⟩] w fun e w' => e = .returned (.string ⟨(Lib.toLowerA l).toArray⟩) ∧ Below w.heap.size w w' :=
  Any.strings_ToLower_ascii Tryz.lays159 Tryz.Builder_Extra_159 ⟨l.toArray⟩ w (by rw [Lib.size_mk]; omega) (fun j b hb => ha b (List.mem_of_getElem? hb))
theorem parseInt_any (z : Int) (h : z.natAbs < 1000000000000000000) (w : World) :
    Calls Tryz.prog 51 #[.string ⟨(Lib.itoa z).toArray⟩, .int .i64 10, .int .i64 64] w fun e w' => e = .returned (.tuple #[.int .i64 z, .nilIface]) ∧ Below w.heap.size w w' :=
  (Any.strconv_ParseInt_10_at64_ok Tryz.laysC174 ⟨(Lib.itoa z).toArray⟩ (by
    rw [Lib.size_mk, itoa_parts]
    have h1 := digs_len_le (n := z.natAbs) (k := 18) h
    have h2 : (Lib.decDigits z.natAbs).length ≤ 19 := by
      by_cases h0 : z.natAbs = 0
      · rw [h0, dec_zero]; decide
      · rw [dec_digs h0]; omega
    have h3 : (sgn (decide (z < 0))).length ≤ 1 := by unfold sgn; split <;> simp
    rw [List.length_append]
    omega) z (parse_itoa h) w).mono fun e w' h => ⟨h.1, by
      rcases h.2 with rfl | ⟨t, rfl⟩
      · exact Below.refl _ _
      · exact ⟨rfl, rfl, rfl, by rw [Lib.bytesWorld_size]; omega, fun j hj => Lib.bytesWorld_at_old w _ t j hj⟩⟩
/-- What FormatInt reads. -/
def Tab (w : World) : Prop := Lib.TabIs Tryz.prog w (Rows.fnParseDecimalExactSpecRow.named.getD 6 "") .u64 Lib.pow10Tab
theorem formatInt_any (z : Int) (h0 : -9223372036854775808 ≤ z) (h1 : z ≤ 9223372036854775807) (w : World) (ht : Tab w) :
    Calls Tryz.prog 52 #[.int .i64 z, .int .i64 10] w fun e w' => e = .returned (.string ⟨(Lib.itoa z).toArray⟩) ∧ Below w.heap.size w w' :=
  (Any.strconv_FormatInt_10 Tryz.laysM173 z h0 h1 w ht).mono fun e w' h => ⟨h.1, by
    obtain ⟨k, os, rfl⟩ := h.2
    exact ⟨rfl, rfl, rfl, by show w.heap.size ≤ (w.heap ++ os).size; rw [Array.size_append]; omega, fun j hj => by show (w.heap ++ os)[j]? = _; rw [Array.getElem?_append_left hj]⟩⟩
end Go.Proofs.Qxb6600768aGreatDoor
