import Derived.Lib.ItoaNum
import Derived.Lib.ParseIntB
import Derived.Lib.TrimByte
namespace Go.Proofs.Qxb6600768aGreatDoor
open Go.Lib

/-- A decimal digit. -/
def dgt (c : UInt8) : Bool := decide (48 ≤ c.toNat) && decide (c.toNat ≤ 57)
theorem dgt_iff {c : UInt8} : dgt c = true ↔ 48 ≤ c.toNat ∧ c.toNat ≤ 57 := by simp [dgt]
/-- A digit's number. -/
def dv (c : UInt8) : Nat := c.toNat - 48
/-- The number that digits spell, behind 'a'. -/
def valFrom (a : Nat) (l : List UInt8) : Nat := l.foldl (fun a c => a * 10 + dv c) a
def val (l : List UInt8) : Nat := valFrom 0 l
theorem val_nil : val [] = 0 := rfl
theorem val_snoc (l : List UInt8) (c : UInt8) : val (l ++ [c]) = val l * 10 + dv c := by simp [val, valFrom]
theorem valFrom_eq (a : Nat) (l : List UInt8) : valFrom a l = a * 10 ^ l.length + val l := by
  induction l generalizing a with
  | nil => simp [valFrom, val]
  | cons c l ih =>
    have h1 : valFrom a (c :: l) = valFrom (a * 10 + dv c) l := rfl
    have h2 : val (c :: l) = valFrom (0 * 10 + dv c) l := rfl
    rw [h1, h2, ih, ih (0 * 10 + dv c), List.length_cons, Nat.pow_succ, Nat.zero_mul, Nat.zero_add, Nat.add_mul, Nat.add_assoc, Nat.mul_assoc, Nat.mul_comm 10]
theorem val_append (a b : List UInt8) : val (a ++ b) = val a * 10 ^ b.length + val b := by
  have : val (a ++ b) = valFrom (val a) b := by simp [val, valFrom]
  rw [this, valFrom_eq]
theorem val_cons (c : UInt8) (l : List UInt8) : val (c :: l) = dv c * 10 ^ l.length + val l := by
  rw [← List.singleton_append, val_append]
  simp [val, valFrom]
theorem dv_lt {c : UInt8} (h : dgt c = true) : dv c < 10 := by
  have := dgt_iff.1 h
  unfold dv; omega
theorem val_lt : ∀ {l : List UInt8}, l.all dgt = true → val l < 10 ^ l.length
  | [], _ => by simp [val, valFrom]
  | c :: l, h => by
    rw [List.all_cons, Bool.and_eq_true] at h
    have h1 := val_lt h.2
    have h2 := dv_lt h.1
    rw [val_cons, List.length_cons, Nat.pow_succ]
    have : dv c * 10 ^ l.length ≤ 9 * 10 ^ l.length := Nat.mul_le_mul_right _ (by omega)
    omega

/-- The canonical digits of a number: none for 0. -/
def digs (n : Nat) : List UInt8 := if n = 0 then [] else decDigits n
theorem digs_zero : digs 0 = [] := rfl
theorem digs_step {n : Nat} (h : n ≠ 0) : digs n = digs (n / 10) ++ [UInt8.ofNat (48 + n % 10)] := by
  unfold digs
  rw [if_neg h, decDigits]
  by_cases h10 : n < 10
  · rw [dif_pos h10, if_pos (by omega), Nat.mod_eq_of_lt h10]; rfl
  · rw [dif_neg h10, if_neg (by omega)]
theorem ofNat_dig {d : Nat} (h : d < 10) : (UInt8.ofNat (48 + d)).toNat = 48 + d := by
  rw [UInt8.toNat_ofNat']
  exact Nat.mod_eq_of_lt (by omega)
theorem dgt_ofNat {d : Nat} (h : d < 10) : dgt (UInt8.ofNat (48 + d)) = true := by rw [dgt_iff, ofNat_dig h]; omega
theorem dv_ofNat {d : Nat} (h : d < 10) : dv (UInt8.ofNat (48 + d)) = d := by unfold dv; rw [ofNat_dig h]; omega
theorem digs_spec (n : Nat) : val (digs n) = n ∧ (digs n).all dgt = true ∧ (∀ c, (digs n).head? = some c → c ≠ 48) := by
  induction n using Nat.strongRecOn with
  | _ n ih =>
    by_cases h : n = 0
    · subst h; exact ⟨rfl, rfl, fun c hc => by cases hc⟩
    · obtain ⟨i1, i2, i3⟩ := ih (n / 10) (by omega)
      have hm : n % 10 < 10 := Nat.mod_lt _ (by decide)
      rw [digs_step h]
      refine ⟨?_, ?_, ?_⟩
      · rw [val_snoc, i1, dv_ofNat hm]; omega
      · rw [List.all_append, i2, List.all_cons, dgt_ofNat hm]; rfl
      · intro c hc
        by_cases h10 : n / 10 = 0
        · rw [h10, digs_zero, List.nil_append, List.head?_cons] at hc
          replace hc := Option.some.inj hc
          subst hc
          intro e
          have := congrArg UInt8.toNat e
          rw [ofNat_dig hm] at this
          have h48 : (48 : UInt8).toNat = 48 := rfl
          omega
        · refine i3 c ?_
          rw [digs_step h10] at hc ⊢
          simpa using hc
theorem val_digs (n : Nat) : val (digs n) = n := (digs_spec n).1
theorem digs_dgt (n : Nat) : (digs n).all dgt = true := (digs_spec n).2.1
theorem eq_of_toNat {a b : UInt8} (h : a.toNat = b.toNat) : a = b := UInt8.toNat_inj.1 h
/-- Canonical digits are the digits of their number. -/
theorem canon : ∀ (k : Nat) (l : List UInt8), l.length ≤ k → l.all dgt = true → (∀ c, l.head? = some c → c ≠ 48) → digs (val l) = l ∧ (l ≠ [] → val l ≠ 0)
  | 0, l, hk, _, _ => by
    have : l = [] := List.length_eq_zero_iff.1 (by omega)
    subst this; exact ⟨rfl, fun h => absurd rfl h⟩
  | k + 1, l, hk, ha, hh => by
    by_cases hl : l = []
    · subst hl; exact ⟨rfl, fun h => absurd rfl h⟩
    · obtain ⟨l', c, rfl⟩ : ∃ l' c, l = l' ++ [c] := ⟨l.dropLast, l.getLast hl, (List.dropLast_concat_getLast hl).symm⟩
      rw [List.all_append, Bool.and_eq_true] at ha
      have hc : dgt c = true := by simpa using ha.2
      have hcd := dgt_iff.1 hc
      have hdc := dv_lt hc
      by_cases hl' : l' = []
      · subst hl'
        have hne : c ≠ 48 := hh c rfl
        have hv : val ([] ++ [c]) = dv c := by rw [val_snoc, val_nil]; omega
        have hz : dv c ≠ 0 := by
          intro e
          apply hne
          apply eq_of_toNat
          show c.toNat = 48
          unfold dv at e; omega
        refine ⟨?_, fun _ => by rw [hv]; exact hz⟩
        rw [hv, digs_step hz, Nat.div_eq_of_lt hdc, digs_zero, Nat.mod_eq_of_lt hdc]
        congr 1
        congr 1
        apply eq_of_toNat
        rw [ofNat_dig hdc]; unfold dv; omega
      · have hh' : ∀ d, l'.head? = some d → d ≠ 48 := fun d hd => hh d (by rw [List.head?_append, hd]; rfl)
        simp only [List.length_append, List.length_singleton] at hk
        obtain ⟨i1, i2⟩ := canon k l' (by omega) ha.1 hh'
        have hv := val_snoc l' c
        have hnz := i2 hl'
        refine ⟨?_, fun _ => by rw [hv]; omega⟩
        rw [hv, digs_step (by omega), show (val l' * 10 + dv c) / 10 = val l' by omega, show (val l' * 10 + dv c) % 10 = dv c by omega, i1]
        congr 1
        congr 1
        apply eq_of_toNat
        rw [ofNat_dig hdc]; unfold dv; omega
/-- Leading zeros taken off: the canonical digits. -/
def trim (l : List UInt8) : List UInt8 := l.dropWhile (· == 48)
theorem trim_spec : ∀ (l : List UInt8), l.all dgt = true → val (trim l) = val l ∧ (trim l).all dgt = true ∧ ∀ c, (trim l).head? = some c → c ≠ 48
  | [], _ => ⟨rfl, rfl, fun c hc => by cases hc⟩
  | c :: l, h => by
    rw [List.all_cons, Bool.and_eq_true] at h
    unfold trim
    rw [List.dropWhile_cons]
    by_cases hc : c = 48
    · subst hc
      have := trim_spec l h.2
      rw [if_pos (by rfl), val_cons]
      have h0 : dv 48 = 0 := rfl
      rw [h0, Nat.zero_mul, Nat.zero_add]
      exact this
    · rw [if_neg (by simpa using hc)]
      exact ⟨rfl, by rw [List.all_cons, h.1, h.2]; rfl, fun d hd => by simp at hd; subst hd; exact hc⟩
theorem trim_digs {l : List UInt8} (h : l.all dgt = true) : trim l = digs (val l) := by
  obtain ⟨h1, h2, h3⟩ := trim_spec l h
  have := (canon _ (trim l) (Nat.le_refl _) h2 h3).1
  rw [h1] at this
  exact this.symm
theorem digs_canon {l : List UInt8} (h : l.all dgt = true) (hh : ∀ c, l.head? = some c → c ≠ 48) : digs (val l) = l := (canon _ l (Nat.le_refl _) h hh).1
theorem digs_nil {n : Nat} : digs n = [] ↔ n = 0 := by
  constructor
  · intro h
    have := val_digs n
    rw [h] at this
    exact this.symm
  · rintro rfl; rfl
theorem digs_inj {a b : Nat} (h : digs a = digs b) : a = b := by
  have := congrArg val h
  rwa [val_digs, val_digs] at this
/-- A canonical numeral of k + 1 digits is at least 10 ^ k. -/
theorem pow_le_of_digs {n k : Nat} (h : (digs n).length = k + 1) : 10 ^ k ≤ n := by
  cases hd : digs n with
  | nil => rw [hd] at h; simp at h
  | cons c l =>
    have hs := digs_spec n
    rw [hd] at hs h
    simp only [List.length_cons, Nat.add_right_cancel_iff] at h
    have hc : c ≠ 48 := hs.2.2 c rfl
    have hg : dgt c = true := by
      have := hs.2.1
      rw [List.all_cons, Bool.and_eq_true] at this
      exact this.1
    have h1 : 1 ≤ dv c := by
      have := dgt_iff.1 hg
      unfold dv
      have : c.toNat ≠ 48 := fun e => hc (eq_of_toNat e)
      omega
    have h2 := hs.1
    rw [val_cons, h] at h2
    have : 1 * 10 ^ k ≤ dv c * 10 ^ k := Nat.mul_le_mul_right _ h1
    omega
theorem lt_pow_of_digs (n : Nat) : n < 10 ^ (digs n).length := by
  have := val_lt (digs_dgt n)
  rwa [val_digs] at this

/-- An integer as its sign and its digits. -/
def Sg (z : Int) : Bool × List UInt8 := (decide (z < 0), digs z.natAbs)
/-- The integer of a sign and digits. -/
def sv (neg : Bool) (n : Nat) : Int := if neg then -(n : Int) else n
end Go.Proofs.Qxb6600768aGreatDoor
