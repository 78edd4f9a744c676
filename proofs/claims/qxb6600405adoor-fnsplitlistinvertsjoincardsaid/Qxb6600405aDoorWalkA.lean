import Derived.Test.Qxb6600405aDoorRows
import Derived.Test.Qxb6600405aDoorPlain
import Derived.Test.Qxb6600405aDoorShelf
import Derived.WalkKit
import Derived.WalkSpells
import Derived.WalkLawsBesides
namespace Go.Proofs.Qxb6600405aDoor
open Go.RowKit Go.Shelf

theorem ret_bool {a b : Bool} (h : a = true ↔ b = true) : Ending.returned (.bool a) = .returned (.bool b) := by rw [Bool.eq_iff_iff.2 h]
theorem ret_b {a b : Bool} (h : a = b) : Ending.returned (.bool a) = .returned (.bool b) := by rw [h]

theorem idx_mem (u : UInt8) : ∀ l : List UInt8, 0 ≤ Lib.indexByte l u ↔ u ∈ l
  | [] => by simp [Lib.indexByte]
  | b :: l => by
    have ih := idx_mem u l
    have hge := Lib.indexByte_ge l u
    by_cases hb : b = u
    · subst hb; simp [Lib.indexByte]
    · have hb' : (b == u) = false := by simpa using hb
      rw [Lib.indexByte, hb', if_neg (by simp)]
      by_cases hm : Lib.indexByte l u = -1
      · rw [hm] at ih ⊢
        have : ¬ u ∈ l := fun h => absurd (ih.2 h) (by decide)
        simp [this, Ne.symm hb]
      · rw [if_neg (by simpa using hm)]
        have : u ∈ l := ih.1 (by omega)
        simp [this]; omega
theorem idx_five (u : UInt8) : 0 ≤ Lib.indexByte [95, 46, 58, 64, 45] u ↔ ((u.toNat : Int) = 95 ∨ (u.toNat : Int) = 46 ∨ (u.toNat : Int) = 58 ∨ (u.toNat : Int) = 64 ∨ (u.toNat : Int) = 45) := by
  rw [idx_mem]
  simp [← UInt8.toNat_inj]
  omega

set_option linter.unusedSimpArgs false
set_option maxHeartbeats 400000 in
theorem allowed_any (u : UInt8) (w : World) :
    Calls Tryd.prog 14 #[.int .u8 (u.toNat : Int)] w fun e w' => e = .returned (.bool (alI (u.toNat : Int))) ∧ w' = w := by
  have c21 : Calls Tryd.prog 21 #[.string ⟨#[95, 46, 58, 64, 45]⟩, .int .u8 (u.toNat : Int)] w fun e w' => e = .returned (.int .i64 (Lib.indexByte [95, 46, 58, 64, 45] u)) ∧ w' = w := by
    have := Any.stringslite_IndexByte Tryd.lays217 ⟨#[95, 46, 58, 64, 45]⟩ (u.toNat : Int) w
    rw [show ((u.toNat : Int)).toNat.toUInt8 = u by simp] at this
    exact this
  have hr := idx_five u
  obtain ⟨r, hre⟩ : ∃ r, Lib.indexByte [95, 46, 58, 64, 45] u = r := ⟨_, rfl⟩
  rw [hre] at c21 hr
  clear hre
  obtain ⟨c, hc⟩ : ∃ c : Int, (u.toNat : Int) = c := ⟨_, rfl⟩
  rw [hc] at c21 hr ⊢
  have HR : Hid (0 ≤ r ↔ c = 95 ∨ c = 46 ∨ c = 58 ∨ c = 64 ∨ c = 45) := hr
  clear hr hc
  go_enter Tryd.func14, Tryd.ntmps14
  go_wp2_with (first | (go_at_call 21; refine c21.mono ?_; rintro e w' ⟨rfl, rfl⟩) | go_in)
  all_goals
    have hr := HR.out
    clear HR c21
    go_ret
    refine ⟨ret_bool ?_, rfl⟩
    simp only [alI, Bool.or_eq_true, decide_eq_true_eq, decide_eq_false_iff_not, beq_iff_eq, beq_eq_false_iff_ne, ne_eq, Bool.false_eq_true, false_iff, true_iff] at *
    omega

theorem drop_cons (s : ByteArray) (k : Nat) (h : k < s.size) : s.data.toList.drop k = s[k] :: s.data.toList.drop (k + 1) := by
  rw [List.drop_eq_getElem_cons (by simpa using h)]; rfl
theorem take_snoc (s : ByteArray) (k : Nat) (h : k < s.size) : s.data.toList.take (k + 1) = s.data.toList.take k ++ [s[k]] := by
  rw [List.take_succ_eq_append_getElem (by simpa using h)]; rfl

def vB (p : ByteArray) : Bool := vL p.data.toList
theorem vB_size {p : ByteArray} (h : ¬ (1 ≤ p.size ∧ p.size ≤ 128)) : vB p = false := by
  have hl : p.data.toList.length = p.size := by simp
  unfold vB vL
  rw [hl]
  by_cases h1 : 1 ≤ p.size
  · have h2 : ¬ p.size ≤ 128 := by omega
    rw [decide_eq_false h2, Bool.false_and, Bool.and_false]
  · rw [decide_eq_false h1, Bool.false_and]
theorem vB_byte {p : ByteArray} {j : Nat} (hj : j < p.size) (h : (!alI (p[j].toNat : Int)) = true) : vB p = false := by
  replace h : al p[j] = false := by unfold al; simpa using h
  have : p.data.toList.all al = false := by
    rw [List.all_eq_false]
    exact ⟨p[j], by rw [← List.take_append_drop j p.data.toList, drop_cons p j hj]; simp, by simp [h]⟩
  unfold vB vL
  rw [this, Bool.and_false, Bool.and_false]
theorem vB_full {p : ByteArray} {j : Nat} (h1 : 1 ≤ p.size) (h2 : p.size ≤ 128) (hj : p.size ≤ j) (h : (p.data.toList.take j).all al = true) : vB p = true := by
  rw [List.take_of_length_le (by simpa using hj)] at h
  unfold vB vL
  rw [h]
  simp [h1, h2]
theorem take_ok {p : ByteArray} {j : Nat} (hj : j < p.size) (h : (p.data.toList.take j).all al = true) (hw : (!alI (p[j].toNat : Int)) = false) : (p.data.toList.take (j + 1)).all al = true := by
  replace hw : al p[j] = true := by unfold al; simpa using hw
  rw [take_snoc p j hj, List.all_append, h]; simp [hw]

set_option maxHeartbeats 400000 in
theorem valid_any (p : ByteArray) (w : World) :
    Calls Tryd.prog 10 #[.string p] w fun e w' => e = .returned (.bool (vB p)) ∧ w' = w := by
  by_cases h1 : 1 ≤ p.size ∧ p.size ≤ 128
  · obtain ⟨h1, h2⟩ := h1
    have hg : ((p.size : Int) == 0) = false := beq_eq_false_iff_ne.2 (by omega)
    go_enter Tryd.func10, Tryd.ntmps10
    go_wp2_with fail
    go_loop [3] (fun i => ∃ j : Nat, j ≤ p.size ∧ i = .int .i64 j ∧ (p.data.toList.take j).all al = true) (fun i => p.size - (intOf i).toNat)
    case atStart => exact ⟨0, Nat.zero_le _, rfl, rfl⟩
    case round =>
      obtain ⟨j, hj, rfl, hj2⟩ := hrel
      have HJ : Hid ((p.data.toList.take j).all al = true) := hj2
      clear hj2
      by_cases hjl : j < p.size
      · go_wp2_with (go_at_call 14; refine (allowed_any _ _).mono ?_; rintro e w' ⟨rfl, rfl⟩)
        · go_ret
          exact ⟨ret_b (vB_byte hjl ‹_›).symm, rfl⟩
        · go_round
          case rel => exact ⟨j + 1, by omega, by go_num, take_ok hjl HJ.out ‹_›⟩
          case measure => simp [intOf]; omega
      · go_wp2
        go_ret
        exact ⟨ret_b (vB_full h1 h2 (by omega) HJ.out).symm, rfl⟩
  · have HV : Hid (vB p = false) := vB_size h1
    by_cases h0 : p.size = 0
    · clear h1
      have h0' : ((p.size : Int) == 0) = true := by simp [h0]
      have H0 : Hid (p.size = 0) := h0
      clear h0
      go_enter Tryd.func10, Tryd.ntmps10
      go_wp2
      go_ret
      exact ⟨ret_b HV.out.symm, rfl⟩
    · have h3 : 128 < p.size := by omega
      clear h1 h0
      have hg : ((p.size : Int) == 0) = false := beq_eq_false_iff_ne.2 (by omega)
      go_enter Tryd.func10, Tryd.ntmps10
      go_wp2
      go_ret
      exact ⟨ret_b HV.out.symm, rfl⟩
end Go.Proofs.Qxb6600405aDoor
