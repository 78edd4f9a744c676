import Derived.Lib.SplitLaws
namespace Go.Proofs.Qxb6600397aDoor
open Go.Lib

/-- A byte of a word. -/
def wb (c : UInt8) : Bool := (97 ≤ c && c ≤ 122) || (65 ≤ c && c ≤ 90) || (48 ≤ c && c ≤ 57) || c == 95
/-- The one-pass automaton. -/
def aut : Bool → List UInt8 → Bool
  | st, [] => !st
  | st, c :: l => if c == 46 then (if st then false else aut true l) else if wb c then aut false l else false
/-- The pieces between the bytes c. -/
def cutAt (c : UInt8) : List UInt8 → List (List UInt8)
  | [] => [[]]
  | x :: l => if x == c then [] :: cutAt c l else match cutAt c l with | h :: t => (x :: h) :: t | [] => [[x]]
def okSeg (p : List UInt8) : Bool := !p.isEmpty && p.all wb
def okAll (ps : List (List UInt8)) : Bool := ps.all okSeg
/-- Where the state says 'inside a segment' the first piece may be empty. -/
def okRest : List (List UInt8) → Bool
  | [] => true
  | p :: ps => p.all wb && okAll ps

theorem split_cut (c : UInt8) : ∀ s : List UInt8, splitK [c] 0 (count s [c]) s = cutAt c s
  | [] => by
    have h : count ([] : List UInt8) [c] = 0 := count_miss (by rw [index_one]; rfl)
    rw [h]; rfl
  | b :: l => by
    have ih := split_cut c l
    by_cases hb : b = c
    · subst hb
      rw [count_cons_eq, Nat.add_comm, splitK, index_one]
      have e : indexByte (b :: l) b = 0 := by simp [indexByte]
      rw [e]
      simp only [cutAt, beq_self_eq_true, if_true]
      rw [if_neg (by decide)]
      simpa using ih
    · have hbc : (b == c) = false := by simpa using hb
      rw [count_cons_ne b c l hb]
      have hge := indexByte_ge l c
      by_cases hm : indexByte l c = -1
      · have h0 : count l [c] = 0 := count_miss (by rw [index_one]; exact hm)
        rw [h0] at ih ⊢
        simp only [splitK] at ih ⊢
        rw [cutAt, hbc, ← ih]
        rfl
      · obtain ⟨i, hi⟩ : ∃ i : Nat, indexByte l c = i := ⟨(indexByte l c).toNat, by omega⟩
        have hc := count_hit (s := l) (sub := [c]) (i := i) (by simp) (by rw [index_one]; exact hi)
        rw [hc, Nat.add_comm] at ih ⊢
        have e1 : indexByte (b :: l) c = (i : Int) + 1 := by
          have hne : ¬ ((indexByte l c == -1) = true) := by simpa using hm
          rw [indexByte, hbc, if_neg (by simp), if_neg hne, hi]
        rw [splitK, index_one, hi] at ih
        rw [splitK, index_one, e1]
        have n1 : ¬ ((((i : Int) == -1)) = true) := by simp
        have n2 : ¬ ((((i : Int) + 1 == -1)) = true) := by simp; omega
        rw [if_neg n1] at ih
        rw [if_neg n2, cutAt, hbc, ← ih]
        have t : ((i : Int) + 1).toNat = i + 1 := by omega
        have t' : (i : Int).toNat = i := by omega
        rw [t, t']
        rfl

theorem split_pieces (c : UInt8) (s : ByteArray) : (splitB ⟨#[c]⟩ 0 (countB s ⟨#[c]⟩) s).map (·.data.toList) = cutAt c s.data.toList := by
  rw [splitB_data]
  exact split_cut c s.data.toList

theorem cutAt_ne (c : UInt8) (l : List UInt8) : cutAt c l ≠ [] := by
  cases l with
  | nil => simp [cutAt]
  | cons x l =>
    unfold cutAt
    split
    · simp
    · split <;> simp

/-- THE PLAIN LAW. -/
theorem aut_cut : ∀ l : List UInt8, aut true l = okAll (cutAt 46 l) ∧ aut false l = okRest (cutAt 46 l)
  | [] => by simp [aut, cutAt, okAll, okRest, okSeg]
  | x :: l => by
    obtain ⟨i1, i2⟩ := aut_cut l
    by_cases hx : x = 46
    · subst hx
      simp [aut, cutAt, okAll, okRest, okSeg, i1]
    · have hx' : (x == 46) = false := by simpa using hx
      cases hc : cutAt 46 l with
      | nil => exact absurd hc (cutAt_ne 46 l)
      | cons h t =>
        rw [hc] at i1 i2
        simp only [aut, cutAt, hx', hc, if_neg Bool.false_ne_true, i2]
        cases hw : wb x <;> simp [okAll, okRest, okSeg, hw]
end Go.Proofs.Qxb6600397aDoor
