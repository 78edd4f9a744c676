import Derived.Lib.SlTrimSet
import Derived.Lib.IndexBytes
namespace Go.Proofs.Qxb6600694aDoor
open Go.Lib

/-- A blank. -/
def bl (c : UInt8) : Bool := c == 32 || c == 9
/-- A byte between the quotes (a quote apart). -/
def tg (c : UInt8) : Bool := decide (32 < c.toNat) && c != 127
/-- What lies before the closing quote, and what lies behind it. -/
def scan : List UInt8 → Option (List UInt8 × List UInt8)
  | [] => none
  | c :: l => if c == 34 then some ([], l) else if tg c then (scan l).map (fun x => (c :: x.1, x.2)) else none
def cutQ : List UInt8 → Option (List UInt8 × List UInt8)
  | [] => none
  | c :: r => if c == 34 then (scan r).map (fun x => (34 :: (x.1 ++ [34]), x.2)) else none
def isW : List UInt8 → Bool
  | a :: b :: _ => a == 87 && b == 47
  | _ => false
/-- One entity tag at the head: the weak mark, the quoted text, the rest. -/
def cutT (l : List UInt8) : Option (Bool × List UInt8 × List UInt8) := (cutQ (if isW l then l.drop 2 else l)).map (fun x => (isW l, x))

theorem scan_lt : ∀ (l : List UInt8) (x : List UInt8 × List UInt8), scan l = some x → x.2.length < l.length
  | [], x, h => by cases h
  | c :: l, x, h => by
    unfold scan at h
    split at h
    · cases h; simp
    · split at h
      · cases hs : scan l with
        | none => rw [hs] at h; cases h
        | some y =>
          rw [hs] at h
          cases h
          have := scan_lt l y hs
          simp; omega
      · cases h
theorem cutQ_lt (l : List UInt8) (x : List UInt8 × List UInt8) (h : cutQ l = some x) : x.2.length < l.length := by
  cases l with
  | nil => cases h
  | cons c r =>
    rw [cutQ] at h
    split at h
    · cases hs : scan r with
      | none => rw [hs] at h; cases h
      | some y =>
        rw [hs] at h
        cases h
        have := scan_lt r y hs
        simp; omega
    · cases h
theorem cutT_lt (l : List UInt8) (x : Bool × List UInt8 × List UInt8) (h : cutT l = some x) : x.2.2.length < l.length := by
  unfold cutT at h
  cases hq : cutQ (if isW l then l.drop 2 else l) with
  | none => rw [hq] at h; cases h
  | some y =>
    rw [hq] at h
    cases h
    have := cutQ_lt _ y hq
    have h2 : (if isW l then l.drop 2 else l).length ≤ l.length := by split <;> simp
    show y.2.length < _
    omega

/-- The two-state machine. -/
def mach : Nat → Bool → List UInt8 → Option (List (Bool × List UInt8))
  | 0, _, _ => none
  | _ + 1, _, [] => some []
  | f + 1, after, c :: r => if bl c then mach f after r else if c == 44 then mach f false r else if after then none else
      match cutT (c :: r) with
      | none => none
      | some x => (mach f true x.2.2).map ((x.1, x.2.1) :: ·)

theorem mach_fuel : ∀ (f f' : Nat) (a : Bool) (l : List UInt8), l.length < f → l.length < f' → mach f a l = mach f' a l
  | 0, _, _, l, h, _ => absurd h (Nat.not_lt_zero _)
  | _ + 1, 0, _, l, _, h => absurd h (Nat.not_lt_zero _)
  | f + 1, f' + 1, a, [], _, _ => rfl
  | f + 1, f' + 1, a, c :: r, h, h' => by
    simp only [List.length_cons] at h h'
    unfold mach
    rw [mach_fuel f f' a r (by omega) (by omega), mach_fuel f f' false r (by omega) (by omega)]
    cases hc : cutT (c :: r) with
    | none => rfl
    | some x =>
      have := cutT_lt _ _ hc
      simp only [List.length_cons] at this
      simp only
      rw [mach_fuel f f' true x.2.2 (by omega) (by omega)]

def M (a : Bool) (l : List UInt8) : Option (List (Bool × List UInt8)) := mach (l.length + 1) a l
theorem M_nil (a : Bool) : M a [] = some [] := rfl
theorem M_blank {c : UInt8} {r : List UInt8} (a : Bool) (h : bl c = true) : M a (c :: r) = M a r := by
  unfold M
  rw [List.length_cons, mach, if_pos h]
theorem M_comma {c : UInt8} {r : List UInt8} (a : Bool) (h : bl c = false) (hc : (c == 44) = true) : M a (c :: r) = M false r := by
  unfold M
  rw [List.length_cons, mach, h, hc]; rfl
theorem M_refuse {c : UInt8} {r : List UInt8} (h : bl c = false) (hc : (c == 44) = false) : M true (c :: r) = none := by
  unfold M
  rw [List.length_cons, mach, h, hc]; rfl
theorem M_bad {c : UInt8} {r : List UInt8} (h : bl c = false) (hc : (c == 44) = false) (ht : cutT (c :: r) = none) : M false (c :: r) = none := by
  unfold M
  rw [List.length_cons, mach, h, hc, ht]; rfl
theorem M_tag {c : UInt8} {r : List UInt8} {x : Bool × List UInt8 × List UInt8} (h : bl c = false) (hc : (c == 44) = false) (ht : cutT (c :: r) = some x) : M false (c :: r) = (M true x.2.2).map ((x.1, x.2.1) :: ·) := by
  have hl := cutT_lt _ _ ht
  simp only [List.length_cons] at hl
  unfold M
  rw [List.length_cons, mach, h, hc, ht]
  simp only [Bool.false_eq_true, if_false]
  rw [mach_fuel (r.length + 1) (x.2.2.length + 1) true x.2.2 (by omega) (by omega)]
theorem M_drop (a : Bool) : ∀ l : List UInt8, M a (l.dropWhile bl) = M a l
  | [] => rfl
  | c :: r => by
    cases h : bl c with
    | true => rw [List.dropWhile_cons, if_pos h, M_drop a r, M_blank a h]
    | false => rw [List.dropWhile_cons, if_neg (by simp [h])]
theorem dropWhile_head {l r : List UInt8} {c : UInt8} (h : l.dropWhile bl = c :: r) : bl c = false := by
  have := List.head?_dropWhile_not bl l
  rw [h] at this
  simpa using this
theorem M_same {l : List UInt8} (h : l = [] ∨ ∃ r, l = 44 :: r) : M true l = M false l := by
  rcases h with rfl | ⟨r, rfl⟩
  · rfl
  · rw [M_comma true (by decide) (by decide), M_comma false (by decide) (by decide)]

/-- What was gathered, then the rest. -/
def R (acc : List (Bool × List UInt8)) (o : Option (List (Bool × List UInt8))) : Option (List (Bool × List UInt8)) := o.map (acc ++ ·)
theorem R_start (o : Option (List (Bool × List UInt8))) : R [] o = o := by cases o <;> simp [R]
theorem R_more (acc : List (Bool × List UInt8)) (t : Bool × List UInt8) (o : Option (List (Bool × List UInt8))) : R acc (o.map (t :: ·)) = R (acc ++ [t]) o := by cases o <;> simp [R]

/-- The value is a star between blanks. -/
def star (l : List UInt8) : Bool := trimS l [32, 9] == [42]
theorem contains_bl (c : UInt8) : ([32, 9] : List UInt8).contains c = bl c := by
  unfold bl
  simp only [List.contains_cons, List.contains_nil, Bool.or_false]
theorem trimLeftS_bl (l : List UInt8) : trimLeftS l [32, 9] = l.dropWhile bl := by
  unfold trimLeftS
  congr 1
  funext c
  exact contains_bl c
theorem trimRightS_bl (l : List UInt8) : trimRightS l [32, 9] = (l.reverse.dropWhile bl).reverse := by
  unfold trimRightS
  congr 2
  funext c
  exact contains_bl c
end Go.Proofs.Qxb6600694aDoor
