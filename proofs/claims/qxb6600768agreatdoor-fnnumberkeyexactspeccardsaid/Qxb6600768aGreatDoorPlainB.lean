import Derived.Test.Qxb6600768aGreatDoorWalkE
namespace Go.Proofs.Qxb6600768aGreatDoor
open Go.RowKit Go.Shelf

/-- From the first to the last digit that is no zero. -/
def mid (D : List UInt8) : List UInt8 := Lib.trimRightB (trim D) 48

/-- The scan for the first and the last digit that is no zero. -/
def Scan (D : List UInt8) (j : Nat) (a b : Int) : Prop :=
  (a = -1 ∧ b = -1 ∧ ∀ i, i < j → D.getD i 0 = 48) ∨
  ∃ p q : Nat, a = p ∧ b = q ∧ p ≤ q ∧ q < j ∧ (∀ i, i < p → D.getD i 0 = 48) ∧ D.getD p 0 ≠ 48 ∧ D.getD q 0 ≠ 48 ∧ ∀ i, q < i → i < j → D.getD i 0 = 48
theorem scan_start (D : List UInt8) : Scan D 0 (-1) (-1) := .inl ⟨rfl, rfl, fun i hi => by omega⟩
theorem Scan.bd {D : List UInt8} {j : Nat} {a b : Int} (h : Scan D j a b) : -1 ≤ a ∧ a ≤ b ∧ b < j ∧ (a < 0 → a = -1 ∧ b = -1) := by
  rcases h with ⟨h1, h2, _⟩ | ⟨p, q, h1, h2, h3, h4, _⟩ <;> omega
theorem Scan.zero {D : List UInt8} {j : Nat} {a b : Int} (h : Scan D j a b) (hj : D.getD j 0 = 48) : Scan D (j + 1) a b := by
  rcases h with ⟨h1, h2, h3⟩ | ⟨p, q, h1, h2, h3, h4, h5, h6, h7, h8⟩
  · exact .inl ⟨h1, h2, fun i hi => by
      rcases Nat.lt_or_ge i j with h | h
      · exact h3 i h
      · obtain rfl : i = j := by omega
        exact hj⟩
  · exact .inr ⟨p, q, h1, h2, h3, by omega, h5, h6, h7, fun i hq hi => by
      rcases Nat.lt_or_ge i j with h | h
      · exact h8 i hq h
      · obtain rfl : i = j := by omega
        exact hj⟩
theorem Scan.first {D : List UInt8} {j : Nat} {a b : Int} (h : Scan D j a b) (ha : a < 0) (hj : D.getD j 0 ≠ 48) : Scan D (j + 1) j j := by
  rcases h with ⟨h1, h2, h3⟩ | ⟨p, q, h1, _⟩
  · exact .inr ⟨j, j, rfl, rfl, Nat.le_refl _, by omega, h3, hj, hj, fun i h1 h2 => by omega⟩
  · omega
theorem Scan.more {D : List UInt8} {j : Nat} {a b : Int} (h : Scan D j a b) (ha : 0 ≤ a) (hj : D.getD j 0 ≠ 48) : Scan D (j + 1) a j := by
  rcases h with ⟨h1, _⟩ | ⟨p, q, h1, h2, h3, h4, h5, h6, h7, h8⟩
  · omega
  · exact .inr ⟨p, j, h1, rfl, by omega, by omega, h5, h6, hj, fun i h1 h2 => by omega⟩
theorem getD_of {D : List UInt8} {j : Nat} {b : UInt8} (h : D[j]? = some b) : D.getD j 0 = b := by rw [List.getD_eq_getElem?_getD, h]; rfl
theorem Scan.none {D : List UInt8} {a b : Int} (h : Scan D D.length a b) (ha : a < 0) : trim D = [] := by
  rcases h with ⟨_, _, h3⟩ | ⟨p, q, h1, _⟩
  · have := Lib.trimLeftB_drop D 48 D.length (Nat.le_refl _) (fun j b hj hb => by rw [← getD_of hb]; exact h3 j hj) (fun b hb => by rw [List.getElem?_eq_none (Nat.le_refl _)] at hb; cases hb)
    rw [List.drop_length] at this
    exact this
  · omega
theorem Scan.some {D : List UInt8} {a b : Int} (h : Scan D D.length a b) (ha : 0 ≤ a) : ∃ p q : Nat, a = p ∧ b = q ∧ p ≤ q ∧ q < D.length ∧ trim D = D.drop p ∧ mid D = (D.drop p).take (q - p + 1) := by
  rcases h with ⟨h1, _⟩ | ⟨p, q, h1, h2, h3, h4, h5, h6, h7, h8⟩
  · omega
  · have ht : trim D = D.drop p := Lib.trimLeftB_drop D 48 p (by omega) (fun j b hj hb => by rw [← getD_of hb]; exact h5 j hj) (fun b hb => by rw [← getD_of hb]; exact h6)
    refine ⟨p, q, h1, h2, h3, h4, ht, ?_⟩
    unfold mid
    rw [ht]
    refine Lib.trimRightB_take (D.drop p) 48 (q - p + 1) (by rw [List.length_drop]; omega) (fun j b hj hb => ?_) (fun b h0 hb => ?_)
    · rw [List.getElem?_drop] at hb
      rw [← getD_of hb]
      by_cases hl : p + j < D.length
      · exact h8 _ (by omega) hl
      · rw [List.getElem?_eq_none (by omega)] at hb; cases hb
    · rw [List.getElem?_drop, show p + (q - p + 1 - 1) = q by omega] at hb
      rw [← getD_of hb]; exact h7

/-- The point's integer. -/
def ptZ (W f : List UInt8) (en : Bool) (e : List UInt8) : Int := sv en (val e) + (((trim (W ++ f)).length : Int) - (f.length : Int))
/-- The four results. -/
def decT (neg : Bool) (W f : List UInt8) (en : Bool) (e : List UInt8) : Value :=
  if trim (W ++ f) = [] then .tuple #[.bool neg, .string ByteArray.empty, .bool false, .string ByteArray.empty]
  else .tuple #[.bool neg, .string ⟨(mid (W ++ f)).toArray⟩, .bool (decide (ptZ W f en e < 0)), .string (dstr (ptZ W f en e).natAbs)]

/-! ### Bytes at places -/
theorem byte_at {s : ByteArray} {p q : List UInt8} {x : UInt8} (h : s.data.toList = p ++ x :: q) : ∃ hk : p.length < s.size, s[p.length] = x := by
  have hk : p.length < s.size := by rw [← size_eq_data, h]; simp
  refine ⟨hk, ?_⟩
  have h1 := drop_cons s p.length hk
  rw [h, List.drop_left] at h1
  injection h1 with h1 _
  exact h1.symm
theorem byte_dgt {s : ByteArray} {p d q : List UInt8} (h : s.data.toList = p ++ d ++ q) (hd : d.all dgt = true) {j : Nat} (h1 : p.length ≤ j) (h2 : j < p.length + d.length) : ∃ hk : j < s.size, dgt s[j] = true := by
  have hk : j < s.size := by rw [← size_eq_data, h]; simp; omega
  refine ⟨hk, ?_⟩
  have e : s.data.toList = (p ++ d.take (j - p.length)) ++ (d[j - p.length]'(by omega)) :: (d.drop (j - p.length + 1) ++ q) := by
    have e2 : d.take (j - p.length) ++ (d[j - p.length]'(by omega)) :: d.drop (j - p.length + 1) = d := by
      rw [← List.drop_eq_getElem_cons (show j - p.length < d.length by omega), List.take_append_drop]
    rw [h, List.append_assoc, List.append_assoc, ← List.cons_append, ← List.append_assoc (List.take (j - p.length) d), e2]
  obtain ⟨hk2, hx⟩ := byte_at e
  have hl : (p ++ d.take (j - p.length)).length = j := by simp; omega
  simp only [hl] at hx
  rw [hx]
  exact List.all_eq_true.1 hd _ (List.getElem_mem _)
/-- No digit stands at the head. -/
def stop (q : List UInt8) : Prop := ∀ c, q.head? = some c → dgt c = false
theorem byte_stop {s : ByteArray} {p q : List UInt8} (h : s.data.toList = p ++ q) (hq : stop q) (hk : p.length < s.size) : dgt s[p.length] = false := by
  cases q with
  | nil => rw [← size_eq_data, h] at hk; simp at hk
  | cons x q =>
    obtain ⟨_, hx⟩ := byte_at h
    rw [hx]
    exact hq x rfl
theorem extract_mid {s : ByteArray} {p d q : List UInt8} (h : s.data.toList = p ++ d ++ q) {i j : Nat} (hi : i = p.length) (hj : j = p.length + d.length) : s.extract i j = ⟨d.toArray⟩ := by
  subst hi hj
  rw [Lib.extract_eq, h, List.append_assoc, List.drop_left, Nat.add_sub_cancel_left, List.take_left]
theorem stop_exp {ep e : List UInt8} {en : Bool} (h : expP ep en e) : stop ep := by
  rcases h.2 with ⟨rfl, _⟩ | ⟨c, sg, hc, rfl, _⟩
  · intro c hc; cases hc
  · intro d hd
    simp at hd
    subst hd
    rcases hc with rfl | rfl <;> rfl
theorem stop_frac {fp f ep e : List UInt8} {en : Bool} (hf : fracP fp f) (h : expP ep en e) : stop (fp ++ ep) := by
  rcases hf.2 with ⟨rfl, _⟩ | rfl
  · exact stop_exp h
  · intro d hd
    simp at hd
    subst hd
    rfl
end Go.Proofs.Qxb6600768aGreatDoor
