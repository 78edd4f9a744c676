import Derived.Lib.SplitLaws
namespace Go.Proofs.Qxb6600405aDoor
open Go.Lib

/-- A byte that a name may bear. -/
def alI (b : Int) : Bool := decide (97 ≤ b ∧ b ≤ 122 ∨ 65 ≤ b ∧ b ≤ 90 ∨ 48 ≤ b ∧ b ≤ 57 ∨ b = 95 ∨ b = 46 ∨ b = 58 ∨ b = 64 ∨ b = 45)
def al (c : UInt8) : Bool := alI (c.toNat : Int)
/-- A valid name. -/
def vL (p : List UInt8) : Bool := decide (1 ≤ p.length) && (decide (p.length ≤ 128) && p.all al)
/-- The pieces between the bytes c. -/
def cutAt (c : UInt8) : List UInt8 → List (List UInt8)
  | [] => [[]]
  | x :: l => if x == c then [] :: cutAt c l else match cutAt c l with | h :: t => (x :: h) :: t | [] => [[x]]

theorem split_cut (c : UInt8) : ∀ s : List UInt8, splitK [c] 0 (count s [c]) s = cutAt c s
  | [] => by
    have h : count ([] : List UInt8) [c] = 0 := count_miss (by rw [index_one]; rfl)
    rw [h]; rfl
  | b :: l => by
    have ih := split_cut c l
    by_cases hb : b = c
    · subst hb
      rw [count_cons_eq, Nat.add_comm, splitK, index_one]
      have e : indexByte (b :: l) b = 0 := by simp [indexByte]
      rw [e]
      simp only [cutAt, beq_self_eq_true, if_true]
      rw [if_neg (by decide)]
      simpa using ih
    · have hbc : (b == c) = false := by simpa using hb
      rw [count_cons_ne b c l hb]
      have hge := indexByte_ge l c
      by_cases hm : indexByte l c = -1
      · have h0 : count l [c] = 0 := count_miss (by rw [index_one]; exact hm)
        rw [h0] at ih ⊢
        simp only [splitK] at ih ⊢
        rw [cutAt, hbc, ← ih]
        rfl
      · obtain ⟨i, hi⟩ : ∃ i : Nat, indexByte l c = i := ⟨(indexByte l c).toNat, by omega⟩
        have hc := count_hit (s := l) (sub := [c]) (i := i) (by simp) (by rw [index_one]; exact hi)
        rw [hc, Nat.add_comm] at ih ⊢
        have e1 : indexByte (b :: l) c = (i : Int) + 1 := by
          have hne : ¬ ((indexByte l c == -1) = true) := by simpa using hm
          rw [indexByte, hbc, if_neg (by simp), if_neg hne, hi]
        rw [splitK, index_one, hi] at ih
        rw [splitK, index_one, e1]
        have n1 : ¬ ((((i : Int) == -1)) = true) := by simp
        have n2 : ¬ ((((i : Int) + 1 == -1)) = true) := by simp; omega
        rw [if_neg n1] at ih
        rw [if_neg n2, cutAt, hbc, ← ih]
        have t : ((i : Int) + 1).toNat = i + 1 := by omega
        have t' : (i : Int).toNat = i := by omega
        rw [t, t']
        rfl

theorem split_pieces (c : UInt8) (s : ByteArray) : (splitB ⟨#[c]⟩ 0 (countB s ⟨#[c]⟩) s).map (·.data.toList) = cutAt c s.data.toList := by
  rw [splitB_data]
  exact split_cut c s.data.toList

theorem cutAt_ne (c : UInt8) (l : List UInt8) : cutAt c l ≠ [] := by
  cases l with
  | nil => simp [cutAt]
  | cons x l =>
    unfold cutAt
    split
    · simp
    · split <;> simp


theorem cutAt_len (c : UInt8) : ∀ (l : List UInt8) (p : List UInt8), p ∈ cutAt c l → p.length ≤ l.length
  | [], p, h => by simp [cutAt] at h; simp [h]
  | x :: l, p, h => by
    have ih := cutAt_len c l
    unfold cutAt at h
    split at h
    · rcases List.mem_cons.1 h with rfl | h
      · simp
      · have := ih p h; simp; omega
    · split at h
      · next a t he =>
        rcases List.mem_cons.1 h with rfl | h
        · have := ih a (by rw [he]; simp); simp; omega
        · have := ih p (by rw [he]; simp [h]); simp; omega
      · simp at h; simp [h]

theorem alI_comma : alI 44 = false := by decide
/-- A piece without the byte c is not cut. -/
theorem cutAt_none (c : UInt8) : ∀ p : List UInt8, (∀ x ∈ p, x ≠ c) → cutAt c p = [p]
  | [], _ => rfl
  | x :: p, h => by
    have hx : (x == c) = false := by simpa using h x (by simp)
    rw [cutAt, hx, cutAt_none c p (fun y hy => h y (by simp [hy]))]
    rfl
/-- A piece without the byte c, then c. -/
theorem cutAt_app (c : UInt8) : ∀ (p l : List UInt8), (∀ x ∈ p, x ≠ c) → cutAt c (p ++ c :: l) = p :: cutAt c l
  | [], l, _ => by simp [cutAt]
  | x :: p, l, h => by
    have hx : (x == c) = false := by simpa using h x (by simp)
    rw [List.cons_append, cutAt, hx, cutAt_app c p l (fun y hy => h y (by simp [hy]))]
    rfl
/-- The names, joined by c. -/
def joinC (c : UInt8) : List (List UInt8) → List UInt8
  | [] => []
  | [p] => p
  | p :: q :: r => p ++ c :: joinC c (q :: r)
/-- THE PLAIN LAW OF THE JOIN. -/
theorem cutAt_join (c : UInt8) : ∀ ps : List (List UInt8), ps ≠ [] → (∀ p ∈ ps, ∀ x ∈ p, x ≠ c) → cutAt c (joinC c ps) = ps
  | [], h, _ => absurd rfl h
  | [p], _, h => cutAt_none c p (h p (by simp))
  | p :: q :: r, _, h => by
    rw [joinC, cutAt_app c p _ (h p (by simp)), cutAt_join c (q :: r) (by simp) (fun z hz => h z (by simp at hz ⊢; exact .inr hz))]
/-- Joined from the left, as the loop does it. -/
theorem joinC_snoc (c : UInt8) : ∀ (ps : List (List UInt8)) (q : List UInt8), ps ≠ [] → joinC c (ps ++ [q]) = joinC c ps ++ c :: q
  | [], _, h => absurd rfl h
  | [p], q, _ => rfl
  | p :: p2 :: r, q, _ => by
    have ih := joinC_snoc c (p2 :: r) q (by simp)
    simp only [List.cons_append] at ih ⊢
    rw [joinC, ih, joinC]
    simp

theorem vL_no_comma {p : List UInt8} (h : vL p = true) : ∀ x ∈ p, x ≠ 44 := by
  unfold vL at h
  simp only [Bool.and_eq_true] at h
  intro x hx e
  have := List.all_eq_true.1 h.2.2 x hx
  subst e
  exact absurd this (by decide)

/-- What is cut off so far, and the piece in hand. -/
def glue (cur : List UInt8) : List (List UInt8) → List (List UInt8)
  | [] => [cur]
  | h :: t => (cur ++ h) :: t
theorem glue_nil (c : UInt8) (l : List UInt8) : glue [] (cutAt c l) = cutAt c l := by
  cases h : cutAt c l with
  | nil => exact absurd h (cutAt_ne c l)
  | cons a t => rfl
theorem glue_eq (c : UInt8) (cur l : List UInt8) : glue cur (cutAt c (c :: l)) = cur :: cutAt c l := by
  simp [cutAt, glue]
theorem glue_ne (c x : UInt8) (cur l : List UInt8) (h : x ≠ c) : glue cur (cutAt c (x :: l)) = glue (cur ++ [x]) (cutAt c l) := by
  have hx : (x == c) = false := by simpa using h
  rw [cutAt, hx]
  cases hc : cutAt c l with
  | nil => exact absurd hc (cutAt_ne c l)
  | cons a t => simp [glue]
theorem glue_end (c : UInt8) (cur : List UInt8) : glue cur (cutAt c []) = [cur] := by simp [cutAt, glue]
end Go.Proofs.Qxb6600405aDoor
