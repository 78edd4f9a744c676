import Derived.Test.Qxb6600768aGreatDoorRows
import Derived.Test.Qxb6600768aGreatDoorPlain
import Derived.Test.Qxb6600768aGreatDoorShelf
import Derived.WalkKit
import Derived.WalkSpells
import Derived.WalkLawsBesides
import Derived.Below
import Derived.OwnWalk
import Derived.Deep.QuietTactic
import Derived.BigQuiet
import Derived.RegionTactic
import Derived.Deep.CutBlock
import Derived.Deep.DeepCutAuto
namespace Go.Proofs.Qxb6600768aGreatDoor
open Go.RowKit Go.Shelf

theorem hid {p : Prop} (h : p) : Hid p := h
theorem ret_bool {a b : Bool} (h : a = true ↔ b = true) : Ending.returned (.bool a) = .returned (.bool b) := by rw [Bool.eq_iff_iff.2 h]
theorem ret_b {a b : Bool} (h : a = b) : Ending.returned (.bool a) = .returned (.bool b) := by rw [h]
theorem ret_i {k : IntKind} {a b : Int} (h : a = b) : Ending.returned (.int k a) = .returned (.int k b) := by rw [h]
theorem ret_s {a b : ByteArray} (h : a = b) : Ending.returned (.string a) = .returned (.string b) := by rw [h]
theorem size_eq_data (s : ByteArray) : s.data.toList.length = s.size := by simp
theorem bytes_inj : ∀ x y : ByteArray, x.data.toList = y.data.toList → x = y := by
  rintro ⟨⟨x⟩⟩ ⟨⟨y⟩⟩ h
  simp at h
  rw [h]
theorem bytes_mk {x : ByteArray} {l : List UInt8} (h : x.data.toList = l) : x = ⟨l.toArray⟩ := bytes_inj x ⟨l.toArray⟩ h
theorem drop_cons (s : ByteArray) (k : Nat) (h : k < s.size) : s.data.toList.drop k = s[k] :: s.data.toList.drop (k + 1) := by
  rw [List.drop_eq_getElem_cons (by simpa using h)]; rfl
theorem take_snoc (s : ByteArray) (k : Nat) (h : k < s.size) : s.data.toList.take (k + 1) = s.data.toList.take k ++ [s[k]] := by
  rw [List.take_succ_eq_append_getElem (by simpa using h)]; rfl

def dgI (c : Int) : Bool := decide (48 ≤ c ∧ c ≤ 57)
theorem dgI_dgt (c : UInt8) : dgI (c.toNat : Int) = dgt c := by
  rw [Bool.eq_iff_iff, dgt_iff]
  unfold dgI
  simp
  omega

set_option linter.unusedSimpArgs false
set_option maxHeartbeats 400000 in
theorem isDigit_any (c : Int) (w : World) :
    Calls Tryz.prog 18 #[.int .u8 c] w fun e w' => e = .returned (.bool (dgI c)) ∧ w' = w := by
  go_enter Tryz.func18, Tryz.ntmps18
  go_wp2
  all_goals
    go_ret
    refine ⟨ret_bool ?_, rfl⟩
    simp only [dgI, Bool.or_eq_true, Bool.and_eq_true, decide_eq_true_eq, decide_eq_false_iff_not, beq_iff_eq, beq_eq_false_iff_ne, ne_eq, Bool.false_eq_true, false_iff, true_iff] at * <;> omega

theorem eqc {x : UInt8} {n : Nat} (hn : n < 256) (h : ((x.toNat : Int) == (n : Int)) = true) : x = UInt8.ofNat n := by
  have h2 : (x.toNat : Int) = n := by simpa using h
  apply UInt8.toNat_inj.1
  rw [UInt8.toNat_ofNat', Nat.mod_eq_of_lt hn]
  omega
theorem nec {x : UInt8} {n : Nat} (hn : n < 256) (h : ((x.toNat : Int) == (n : Int)) = false) : x ≠ UInt8.ofNat n := by
  have h2 : ¬ (x.toNat : Int) = n := by simpa using h
  intro e
  apply h2
  rw [e, UInt8.toNat_ofNat', Nat.mod_eq_of_lt hn]

theorem trim_more {s : ByteArray} {k : Nat} (hk : k < s.size) (h : ((s[k].toNat : Int) == 48) = true) (ht : trim s.data.toList = trim (s.data.toList.drop k)) : trim s.data.toList = trim (s.data.toList.drop (k + 1)) := by
  rw [ht, drop_cons s k hk, show s[k] = 48 from eqc (n := 48) (by decide) h]
  rfl
theorem trim_stop {s : ByteArray} {k : Nat} (hk : k < s.size) (h : ((s[k].toNat : Int) == 48) = false) (ht : trim s.data.toList = trim (s.data.toList.drop k)) : trim s.data.toList = s.data.toList.drop k := by
  rw [ht, drop_cons s k hk]
  unfold trim
  rw [List.dropWhile_cons, if_neg (by simpa using nec (n := 48) (by decide) h)]
theorem trim_end {s : ByteArray} {k : Nat} (hk : s.size ≤ k) (ht : trim s.data.toList = trim (s.data.toList.drop k)) : trim s.data.toList = s.data.toList.drop k := by
  rw [ht, List.drop_eq_nil_of_le (by simpa using hk)]; rfl

set_option maxHeartbeats 400000 in
theorem trimZeros_any (s : ByteArray) (w : World) (hs : s.size ≤ 4294967296) :
    Calls Tryz.prog 21 #[.string s] w fun e w' => e = .returned (.string ⟨(trim s.data.toList).toArray⟩) ∧ w' = w := by
  go_enter Tryz.func21, Tryz.ntmps21
  go_wp2
  go_loop [3] (fun i => ∃ k : Nat, k ≤ s.size ∧ i = .int .i64 k ∧ trim s.data.toList = trim (s.data.toList.drop k)) (fun i => s.size - (intOf i).toNat)
  case atStart => exact ⟨0, Nat.zero_le _, rfl, rfl⟩
  case round =>
    obtain ⟨k, hk, rfl, ht⟩ := hrel
    have HT := hid ht
    clear ht
    by_cases hlt : k < s.size
    · cases hc : ((s[k].toNat : Int) == 48) with
      | true =>
        go_wp2
        go_round
        case rel => exact ⟨k + 1, by omega, by go_num, trim_more hlt hc HT.out⟩
        case measure => simp [intOf]; omega
      | false =>
        have HE := hid (trim_stop hlt hc HT.out)
        go_wp2
        go_ret
        exact ⟨ret_s (bytes_mk (by rw [Lib.extract_to_end, HE.out])), rfl⟩
    · have HE := hid (trim_end (by omega) HT.out)
      go_wp2
      go_ret
      exact ⟨ret_s (bytes_mk (by rw [Lib.extract_to_end, HE.out])), rfl⟩

/-- The j-th digit of the two strings laid end to end. -/
def catAt (a b : ByteArray) (j : Nat) : UInt8 := (a.data.toList ++ b.data.toList).getD j 0
set_option maxHeartbeats 400000 in
theorem digitAt_any (a b : ByteArray) (j : Nat) (w : World) (hj : j < a.size + b.size) (hs : a.size + b.size ≤ 4294967296) :
    Calls Tryz.prog 20 #[.string a, .string b, .int .i64 j] w fun e w' => e = .returned (.int .u8 ((catAt a b j).toNat : Int)) ∧ w' = w := by
  by_cases h : j < a.size
  · have HC : Hid (catAt a b j = a[j]) := hid (by
      unfold catAt
      rw [List.getD_eq_getElem?_getD, List.getElem?_append_left (by rw [size_eq_data]; exact h), List.getElem?_eq_getElem (by rw [size_eq_data]; exact h)]; rfl)
    go_enter Tryz.func20, Tryz.ntmps20
    go_wp2
    go_ret
    exact ⟨ret_i (by rw [HC.out]), rfl⟩
  · have hb : j - a.size < b.size := by omega
    have HC : Hid (catAt a b j = b[j - a.size]) := hid (by
      unfold catAt
      rw [List.getD_eq_getElem?_getD, List.getElem?_append_right (by rw [size_eq_data]; omega), size_eq_data, List.getElem?_eq_getElem (by rw [size_eq_data]; exact hb)]; rfl)
    have e1 : ((j : Int) - (a.size : Int)).toNat = j - a.size := by omega
    go_enter Tryz.func20, Tryz.ntmps20
    go_wp2
    go_ret
    exact ⟨ret_i (by rw [HC.out]), rfl⟩

/-! ### zzCmpMag -/
def cmpI (a b : Nat) : Int := if a < b then -1 else if a = b then 0 else 1
theorem cmp_len_lt {a b : Nat} (h : (digs a).length < (digs b).length) : a < b := by
  obtain ⟨k, hk⟩ : ∃ k, (digs b).length = k + 1 := ⟨(digs b).length - 1, by omega⟩
  have h1 := pow_le_of_digs hk
  have h2 := lt_pow_of_digs a
  have h3 : 10 ^ (digs a).length ≤ 10 ^ k := Nat.pow_le_pow_right (by decide) (by omega)
  omega
theorem val_lt_at {a b : List UInt8} {k : Nat} (hl : a.length = b.length) (hk : k < a.length) (ha : a.all dgt = true) (he : a.take k = b.take k) (hlt : a[k].toNat < (b[k]'(by omega)).toNat) (hd : dgt a[k] = true) : val a < val b := by
  have ea : a = a.take k ++ (a[k] :: a.drop (k + 1)) := by rw [← List.drop_eq_getElem_cons hk, List.take_append_drop]
  have eb : b = b.take k ++ ((b[k]'(by omega)) :: b.drop (k + 1)) := by rw [← List.drop_eq_getElem_cons (by omega), List.take_append_drop]
  have hlr : (b.drop (k + 1)).length = (a.drop (k + 1)).length := by simp [hl]
  have hda : (a.drop (k + 1)).all dgt = true := List.all_eq_true.2 fun x hx => List.all_eq_true.1 ha x (List.mem_of_mem_drop hx)
  have h1 := val_lt hda
  have hdv : dv a[k] + 1 ≤ dv (b[k]'(by omega)) := by
    have := dgt_iff.1 hd
    unfold dv; omega
  rw [ea, eb, val_append, val_append, val_cons, val_cons, he]
  simp only [List.length_cons, hlr]
  have h2 : (dv a[k] + 1) * 10 ^ (a.drop (k + 1)).length ≤ dv (b[k]'(by omega)) * 10 ^ (a.drop (k + 1)).length := Nat.mul_le_mul_right _ hdv
  rw [Nat.add_mul] at h2
  omega

set_option maxHeartbeats 1000000 in
theorem cmpMag_any (x y : ByteArray) (a b : Nat) (w : World) (hx : x.data.toList = digs a) (hy : y.data.toList = digs b) (hs : x.size ≤ 4294967296) :
    Calls Tryz.prog 24 #[.string x, .string y] w fun e w' => e = .returned (.int .i64 (cmpI a b)) ∧ Below w.heap.size w w' := by
  have hlx : (digs a).length = x.size := by rw [← hx, size_eq_data]
  have hly : (digs b).length = y.size := by rw [← hy, size_eq_data]
  by_cases hne : x.size = y.size
  · have hg : ((x.size : Int) != (y.size : Int)) = false := by simp [hne]
    have HX := hid hx
    have HY := hid hy
    have HN := hid hne
    have hle : x.size ≤ y.size := by omega
    have hge : y.size ≤ x.size := by omega
    clear hne hx hy hlx hly
    go_enter Tryz.func24, Tryz.ntmps24
    go_wp2
    go_loopw [5] (fun i wr => ∃ (k n : Nat), k ≤ x.size ∧ i = .int .i64 k ∧ wr = w.drewN n ∧ x.data.toList.take k = y.data.toList.take k) (fun i _ => x.size - (intOf i).toNat)
    case atStart => exact ⟨0, 0, Nat.zero_le _, rfl, rfl, rfl⟩
    case round =>
      obtain ⟨k, n, hk, rfl, rfl, he⟩ := hrel
      have HE := hid he
      clear he
      by_cases hlt : k < x.size
      · have hlt2 : k < y.size := by omega
        by_cases hc : x[k] = y[k]
        · have hcn : ((x[k].toNat : Int) != (y[k].toNat : Int)) = false := by simp [hc]
          have HC := hid hc
          clear hc
          go_wp2
          go_quiet (fail)
          go_wp2
          go_roundw
          case rel => exact ⟨k + 1, _, by omega, by go_num, rfl, by rw [take_snoc x k hlt, take_snoc y k hlt2, HE.out, HC.out]⟩
          case measure => simp [intOf]; omega
        · have hcn : ((x[k].toNat : Int) != (y[k].toNat : Int)) = true := by
            simp only [bne_iff_ne, ne_eq]
            intro e
            exact hc (eq_of_toNat (by omega))
          by_cases hlo : x[k].toNat < y[k].toNat
          · have HR : Hid (cmpI a b = -1) := hid (by
              have := val_lt_at (a := x.data.toList) (b := y.data.toList) (k := k) (by rw [size_eq_data, size_eq_data]; exact HN.out) (by rw [size_eq_data]; exact hlt) (by rw [HX.out]; exact digs_dgt a) HE.out hlo (List.all_eq_true.1 (by rw [HX.out]; exact digs_dgt a) _ (List.getElem_mem _))
              rw [HX.out, HY.out, val_digs, val_digs] at this
              unfold cmpI; rw [if_pos this])
            have hlo' : (x[k].toNat : Int) < (y[k].toNat : Int) := by omega
            go_wp2
            go_quiet (fail)
            go_wp2
            go_quiet (fail)
            go_wp2
            go_ret
            exact ⟨ret_i HR.out.symm, below_drewN (below_drewN (below_drewN (Below.refl _ _) _) _) _⟩
          · have hgt : y[k].toNat < x[k].toNat := by
              have : x[k].toNat ≠ y[k].toNat := fun e => hc (eq_of_toNat e)
              omega
            have HR : Hid (cmpI a b = 1) := hid (by
              have := val_lt_at (a := y.data.toList) (b := x.data.toList) (k := k) (by rw [size_eq_data, size_eq_data]; exact HN.out.symm) (by rw [size_eq_data]; exact hlt2) (by rw [HY.out]; exact digs_dgt b) HE.out.symm hgt (List.all_eq_true.1 (by rw [HY.out]; exact digs_dgt b) _ (List.getElem_mem _))
              rw [HX.out, HY.out, val_digs, val_digs] at this
              unfold cmpI; rw [if_neg (by omega), if_neg (by omega)])
            have hlo' : ¬ (x[k].toNat : Int) < (y[k].toNat : Int) := by omega
            go_wp2
            go_quiet (fail)
            go_wp2
            go_quiet (fail)
            go_wp2
            go_ret
            exact ⟨ret_i HR.out.symm, below_drewN (below_drewN (below_drewN (Below.refl _ _) _) _) _⟩
      · have HR : Hid (cmpI a b = 0) := hid (by
          have := HE.out
          rw [List.take_of_length_le (by rw [size_eq_data]; omega), List.take_of_length_le (by rw [size_eq_data]; omega), HX.out, HY.out] at this
          rw [digs_inj this]
          unfold cmpI; simp)
        go_wp2
        go_ret
        exact ⟨ret_i HR.out.symm, below_drewN (Below.refl _ _) n⟩
  · have hg : ((x.size : Int) != (y.size : Int)) = true := by simp only [bne_iff_ne, ne_eq]; omega
    by_cases hlt : x.size < y.size
    · have HR : Hid (cmpI a b = -1) := hid (by unfold cmpI; rw [if_pos (cmp_len_lt (by omega))])
      clear hne hx hy hlx hly
      go_enter Tryz.func24, Tryz.ntmps24
      go_wp2
      go_ret
      exact ⟨ret_i HR.out.symm, Below.refl _ _⟩
    · have HR : Hid (cmpI a b = 1) := hid (by
        have := cmp_len_lt (a := b) (b := a) (by omega)
        unfold cmpI; rw [if_neg (by omega), if_neg (by omega)])
      clear hne hx hy hlx hly
      go_enter Tryz.func24, Tryz.ntmps24
      go_wp2
      go_ret
      exact ⟨ret_i HR.out.symm, Below.refl _ _⟩
end Go.Proofs.Qxb6600768aGreatDoor
