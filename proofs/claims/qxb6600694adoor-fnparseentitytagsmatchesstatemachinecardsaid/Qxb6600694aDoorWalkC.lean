import Derived.Test.Qxb6600694aDoorWalkB
import Derived.OwnWalk
namespace Go.Proofs.Qxb6600694aDoor
open Go.RowKit Go.Shelf

/-! ### the star -/
theorem dropWhile_all {l r : List UInt8} (h : l.all bl = true) : (l ++ r).dropWhile bl = r.dropWhile bl := by
  induction l with
  | nil => rfl
  | cons a l ih =>
    rw [List.all_cons, Bool.and_eq_true] at h
    rw [List.cons_append, List.dropWhile_cons, if_pos h.1, ih h.2]
theorem dropWhile_keep {l : List UInt8} (h : ∀ c, l.head? = some c → bl c = false) : l.dropWhile bl = l := by
  cases l with
  | nil => rfl
  | cons a l => rw [List.dropWhile_cons, if_neg (by simp [h a rfl])]
theorem trim_mid {A B C : List UInt8} (hA : A.all bl = true) (hC : C.all bl = true) (hf : ∀ c, B.head? = some c → bl c = false) (hl : ∀ c, B.getLast? = some c → bl c = false) : Lib.trimS (A ++ (B ++ C)) [32, 9] = B := by
  unfold Lib.trimS
  rw [trimLeftS_bl, trimRightS_bl, List.reverse_append, List.reverse_append, List.append_assoc]
  rw [dropWhile_all (by simpa using hC)]
  by_cases hB : B = []
  · subst hB
    rw [List.reverse_nil, List.nil_append, ← List.append_nil A.reverse, dropWhile_all (by simpa using hA)]
    rfl
  · have : (B.reverse ++ A.reverse).dropWhile bl = B.reverse ++ A.reverse := dropWhile_keep (fun c hc => by
      refine hl c ?_
      rw [List.head?_append, List.head?_reverse] at hc
      cases hg : B.getLast? with
      | none => exact absurd (List.getLast?_eq_none_iff.1 hg) hB
      | some d => rw [hg] at hc; simpa using hc)
    rw [this, List.reverse_append, List.reverse_reverse, List.reverse_reverse, dropWhile_all hA, dropWhile_keep hf]
theorem mid_split (l : List UInt8) (lo hi : Nat) (h : lo ≤ hi) : l = l.take lo ++ ((l.drop lo).take (hi - lo) ++ l.drop hi) := by
  have h1 : l.drop hi = (l.drop lo).drop (hi - lo) := by rw [List.drop_drop, Nat.add_sub_cancel' h]
  rw [h1, List.take_append_drop, List.take_append_drop]
theorem star_mid {s : ByteArray} {lo hi : Nat} (h1 : lo ≤ hi) (h2 : hi ≤ s.size) (hA : (s.data.toList.take lo).all bl = true) (hC : (s.data.toList.drop hi).all bl = true)
    (hf : ∀ h : lo < s.size, bl s[lo] = false) (hl : ∀ h : lo < hi, bl (s[hi - 1]'(by omega)) = false) : Lib.trimS s.data.toList [32, 9] = (s.data.toList.drop lo).take (hi - lo) := by
  conv => lhs; rw [mid_split s.data.toList lo hi h1]
  have hlen : s.data.toList.length = s.size := by simp
  refine trim_mid hA hC (fun c hc => ?_) (fun c hc => ?_)
  · by_cases h : lo < hi
    · rw [drop_cons s lo (by omega), show hi - lo = (hi - lo - 1) + 1 by omega, List.take_succ_cons, List.head?_cons] at hc
      cases hc
      exact hf (by omega)
    · rw [show hi - lo = 0 by omega] at hc
      simp at hc
  · by_cases h : lo < hi
    · have hlt : hi - 1 - lo < (s.data.toList.drop lo).length := by rw [List.length_drop]; omega
      rw [show hi - lo = (hi - 1 - lo) + 1 by omega, List.take_succ_eq_append_getElem hlt, List.getLast?_append] at hc
      simp only [List.getLast?_singleton, Option.some_or, Option.some.injEq] at hc
      subst hc
      rw [List.getElem_drop]
      have e : lo + (hi - 1 - lo) = hi - 1 := by omega
      have := hl h
      simp only [e]
      exact this
    · rw [show hi - lo = 0 by omega] at hc
      simp at hc
theorem star_yes {s : ByteArray} {lo hi : Nat} (hlt : lo < s.size) (ht : Lib.trimS s.data.toList [32, 9] = (s.data.toList.drop lo).take (hi - lo)) (h1 : hi - lo = 1) (hc : ((s[lo].toNat : Int) == 42) = true) : star s.data.toList = true := by
  have e : s[lo] = 42 := UInt8.toNat_inj.1 (by have h : (s[lo].toNat : Int) = 42 := by simpa using hc
                                               show s[lo].toNat = 42; omega)
  unfold star
  rw [ht, h1, drop_cons s lo hlt, e]
  rfl
theorem star_no {s : ByteArray} {lo hi : Nat} (h2 : hi ≤ s.size) (ht : Lib.trimS s.data.toList [32, 9] = (s.data.toList.drop lo).take (hi - lo)) (h : ¬ hi - lo = 1 ∨ ∃ h : lo < s.size, ((s[lo].toNat : Int) == 42) = false) : star s.data.toList = false := by
  have hlen : s.data.toList.length = s.size := by simp
  unfold star
  rw [ht]
  apply beq_eq_false_iff_ne.2
  intro e
  have h1 : hi - lo = 1 := by
    have := congrArg List.length e
    rw [List.length_take, List.length_drop, List.length_singleton] at this
    omega
  rcases h with h | ⟨hlt, hc⟩
  · exact h h1
  · rw [h1, drop_cons s lo hlt, List.take_succ_cons, List.cons.injEq] at e
    rw [e.1] at hc
    exact absurd hc (by decide)

/-! ### suffixes -/
theorem scan_suffix : ∀ (l : List UInt8) (x : List UInt8 × List UInt8), scan l = some x → x.2 <:+ l
  | [], x, h => by cases h
  | c :: l, x, h => by
    rw [scan] at h
    split at h
    · cases h; exact List.suffix_cons _ _
    · split at h
      · cases hs : scan l with
        | none => rw [hs] at h; cases h
        | some y =>
          rw [hs] at h
          cases h
          exact (scan_suffix l y hs).trans (List.suffix_cons _ _)
      · cases h
theorem cutQ_suffix {l : List UInt8} {x : List UInt8 × List UInt8} (h : cutQ l = some x) : x.2 <:+ l := by
  cases l with
  | nil => cases h
  | cons c r =>
    rw [cutQ] at h
    split at h
    · cases hs : scan r with
      | none => rw [hs] at h; cases h
      | some y =>
        rw [hs] at h
        cases h
        exact (scan_suffix r y hs).trans (List.suffix_cons _ _)
    · cases h
theorem cutT_suffix {l : List UInt8} {x : List UInt8 × List UInt8} (h : cutQ (if isW l then l.drop 2 else l) = some x) : x.2 <:+ l := by
  refine (cutQ_suffix h).trans ?_
  split
  · exact List.drop_suffix _ _
  · exact List.suffix_refl _
theorem suffix_drop {l r : List UInt8} (h : r <:+ l) : l.drop (l.length - r.length) = r := by
  obtain ⟨t, rfl⟩ := h
  simp

/-! ### rows -/
theorem kept_other {w w1 : World} {B e1 e2 n1 n2 : Nat} {v1 v2 : Value} {x1 x2 : List Value} (h1 : w.ownsRow B e1 1 v1 n1 x1) (h2 : w.ownsRow B e2 1 v2 n2 x2) (hg : w.grownBy w1 v1.ownBlock) (hne : e1 ≠ e2) : w1.ownsRow B e2 1 v2 n2 x2 := by
  refine h2.kept hg ?_
  rcases h2.2 with ⟨rfl, _⟩ | ⟨g2, c2, cur2, rfl, _, hh2, _⟩
  · exact .inl rfl
  · rcases h1.2 with ⟨rfl, _⟩ | ⟨g1, c1, cur1, rfl, _, hh1, _⟩
    · exact .inr (by simp [Value.ownBlock])
    · refine .inr ?_
      intro e
      simp [Value.ownBlock] at e
      subst e
      rw [hh1] at hh2
      simp at hh2
      exact hne hh2.2
def wcells (ts : List (Bool × List UInt8)) : List Value := ts.map fun t => .bool t.1
def ocells (ts : List (Bool × List UInt8)) : List Value := ts.map fun t => .string ⟨t.2.toArray⟩
/-- v is a slice, nil or not, that shows the cells xs. -/
def viewV (w : World) (v : Value) (xs : List Value) : Prop :=
  ∃ ao cap, v = .slice ao xs.length cap ∧ ∀ i, i < xs.length → ∃ b, ao = some ⟨b, 0, none⟩ ∧ w.cell? ⟨b, i, none⟩ = xs[i]?
theorem viewV_of_owns {w : World} {B e n : Nat} {v : Value} {xs : List Value} (h : w.ownsRow B e 1 v n xs) : viewV w v xs := by
  have hl := h.1
  rw [Nat.mul_one] at hl
  subst hl
  rcases h.2 with ⟨rfl, hn⟩ | ⟨g, cap, cur, rfl, _⟩
  · exact ⟨none, 0, by rw [hn], fun i hi => by omega⟩
  · refine ⟨some ⟨g, 0, none⟩, cap, rfl, fun i hi => ⟨g, rfl, ?_⟩⟩
    have := h.cells (g := g) rfl i xs[i] (List.getElem?_eq_getElem hi)
    rw [List.getElem?_eq_getElem hi]
    by_cases h0 : i = 0
    · subst h0; simpa [Addr.add] using this
    · simpa [Addr.add, h0] using this
theorem viewV.below {w w' : World} {v : Value} {xs : List Value} (h : viewV w v xs) (hb : Below w.heap.size w w') : viewV w' v xs := by
  obtain ⟨ao, cap, rfl, hc⟩ := h
  refine ⟨ao, cap, rfl, fun i hi => ?_⟩
  obtain ⟨b, rfl, hc'⟩ := hc i hi
  refine ⟨b, rfl, ?_⟩
  have : w.cell? ⟨b, i, none⟩ = some xs[i] := by rw [hc', List.getElem?_eq_getElem hi]
  exact (hb.cell (World.block_lt_of_cell? _ _ this)).trans hc'
end Go.Proofs.Qxb6600694aDoor
