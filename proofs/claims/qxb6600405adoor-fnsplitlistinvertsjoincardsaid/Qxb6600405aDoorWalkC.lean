import Derived.Test.Qxb6600405aDoorWalkB
namespace Go.Proofs.Qxb6600405aDoor
open Go.RowKit Go.Shelf

/-- The allowed characters, spelt out. -/
def AS : ByteArray := ⟨#[97, 98, 99, 100, 101, 102, 103, 104, 105, 106, 107, 108, 109, 110, 111, 112, 113, 114, 115, 116, 117, 118, 119, 120, 121, 122, 65, 66, 67, 68, 69, 70, 71, 72, 73, 74, 75, 76, 77, 78, 79, 80, 81, 82, 83, 84, 85, 86, 87, 88, 89, 90, 48, 49, 50, 51, 52, 53, 54, 55, 56, 57, 95, 46, 58, 64, 45]⟩
theorem AS_ok : ∀ n : Nat, n < 67 → alI ((AS.data.toList.getD n 0).toNat : Int) = true := by decide +kernel
theorem AS_all : ∀ n : Nat, n < 256 → alI (n : Int) = true → (AS.data.toList.map fun x => x.toNat).contains n = true := by decide +kernel
theorem AS_get (k : Nat) (hk : k < 67) : AS[k]'hk = AS.data.toList.getD k 0 := by
  have hk' : k < AS.data.toList.length := hk
  rw [List.getD_eq_getElem?_getD, List.getElem?_eq_getElem hk']; rfl
theorem AS_hit {c : Int} {k : Nat} (hk : k < 67) (h : (((AS[k]'hk).toNat : Int) == c) = true) : alI c = true := by
  rw [AS_get k hk] at h
  rw [← beq_iff_eq.1 h]
  exact AS_ok k hk
theorem AS_more {c : Int} {k : Nat} (hk : k < 67) (ha : ∀ x ∈ AS.data.toList.take k, (x.toNat : Int) ≠ c) (h : (((AS[k]'hk).toNat : Int) == c) = false) : ∀ x ∈ AS.data.toList.take (k + 1), (x.toNat : Int) ≠ c := by
  have hk' : k < AS.data.toList.length := hk
  rw [List.take_succ_eq_append_getElem hk']
  intro x hx
  rcases List.mem_append.1 hx with hx | hx
  · exact ha x hx
  · rw [List.mem_singleton.1 hx]
    exact beq_eq_false_iff_ne.1 h
theorem AS_miss (u : UInt8) {k : Nat} (hk : 67 ≤ k) (ha : ∀ x ∈ AS.data.toList.take k, (x.toNat : Int) ≠ (u.toNat : Int)) : alI (u.toNat : Int) = false := by
  rw [List.take_of_length_le hk] at ha
  cases h : alI (u.toNat : Int) with
  | false => rfl
  | true =>
    have h2 := AS_all u.toNat (UInt8.toNat_lt u) h
    rw [List.contains_iff_mem, List.mem_map] at h2
    obtain ⟨x, hx, e⟩ := h2
    exact absurd (by rw [e]) (ha x hx)

set_option maxHeartbeats 400000 in
theorem inAllowed_any (u : UInt8) (w : World) :
    Calls Tryd.prog 16 #[.int .u8 (u.toNat : Int)] w fun e w' => e = .returned (.bool (alI (u.toNat : Int))) ∧ w' = w := by
  have hm := fun {k : Nat} (hk : 67 ≤ k) => AS_miss u hk
  obtain ⟨c, hc⟩ : ∃ c : Int, (u.toNat : Int) = c := ⟨_, rfl⟩
  simp only [hc] at hm
  rw [hc]
  have HM : Hid (∀ k : Nat, 67 ≤ k → (∀ x ∈ AS.data.toList.take k, (x.toNat : Int) ≠ c) → alI c = false) := fun k hk => hm hk
  clear hc hm
  go_enter Tryd.func16, Tryd.ntmps16
  go_wp2
  go_loop [3] (fun i => ∃ k : Nat, k ≤ 67 ∧ i = .int .i64 k ∧ ∀ x ∈ AS.data.toList.take k, (x.toNat : Int) ≠ c) (fun i => 67 - (intOf i).toNat)
  case atStart => exact ⟨0, Nat.zero_le _, rfl, by simp⟩
  case round =>
    obtain ⟨k, hk, rfl, ha⟩ := hrel
    have HA : Hid (∀ x ∈ AS.data.toList.take k, (x.toNat : Int) ≠ c) := ha
    clear ha
    by_cases hlt : k < 67
    · go_wp2
      · go_ret
        exact ⟨ret_b (AS_hit hlt ‹_›).symm, rfl⟩
      · go_round
        case rel => exact ⟨k + 1, by omega, by go_num, AS_more hlt HA.out ‹_›⟩
        case measure => simp [intOf]; omega
    · go_wp2
      go_ret
      exact ⟨ret_b (HM.out k (by omega) HA.out).symm, rfl⟩

/-- How many bytes are allowed. -/
def good (l : List UInt8) : Nat := (l.filter al).length
theorem good_le (l : List UInt8) : good l ≤ l.length := List.length_filter_le _ _
theorem good_snoc (p : ByteArray) (j : Nat) (h : j < p.size) : good (p.data.toList.take (j + 1)) = good (p.data.toList.take j) + if alI (p[j].toNat : Int) = true then 1 else 0 := by
  unfold good
  rw [take_snoc p j h, List.filter_append]
  cases ha : alI (p[j].toNat : Int) <;> simp [al, ha]
theorem good_all (l : List UInt8) : good l = l.length ↔ l.all al = true := by
  unfold good
  rw [List.length_filter_eq_length_iff, List.all_eq_true]
theorem vB_good (p : ByteArray) : vB p = true ↔ (good p.data.toList = p.size ∧ 1 ≤ good p.data.toList ∧ good p.data.toList ≤ 128) := by
  have hl : p.data.toList.length = p.size := by simp
  have hg := good_all p.data.toList
  unfold vB vL
  rw [hl] at hg ⊢
  simp only [Bool.and_eq_true, decide_eq_true_eq]
  constructor
  · rintro ⟨a, b, c⟩
    have := hg.2 c
    omega
  · rintro ⟨a, b, c⟩
    exact ⟨by omega, by omega, hg.1 a⟩

set_option linter.unusedSimpArgs false
set_option maxHeartbeats 400000 in
theorem validModel_any (p : ByteArray) (w : World) (hs : p.size ≤ 4294967296) :
    Calls Tryd.prog 13 #[.string p] w fun e w' => e = .returned (.bool (vB p)) ∧ w' = w := by
  have HV : Hid (vB p = true ↔ (good p.data.toList = p.size ∧ 1 ≤ good p.data.toList ∧ good p.data.toList ≤ 128)) := vB_good p
  go_enter Tryd.func13, Tryd.ntmps13
  go_wp2
  go_loop [3, 4] (fun g i => ∃ (j m : Nat), j ≤ p.size ∧ i = .int .i64 j ∧ g = .int .i64 m ∧ m ≤ j ∧ m = good (p.data.toList.take j)) (fun _ i => p.size - (intOf i).toNat)
  case atStart => exact ⟨0, 0, Nat.zero_le _, rfl, rfl, Nat.le_refl _, rfl⟩
  case round =>
    obtain ⟨j, m, hj, rfl, rfl, hmj, hm⟩ := hrel
    have HJ : Hid (m = good (p.data.toList.take j)) := hm
    clear hm
    by_cases hjl : j < p.size
    · have HS := good_snoc p j hjl
      rw [← HJ.out] at HS
      have HSn : Hid (good (p.data.toList.take (j + 1)) = m + if alI (p[j].toNat : Int) = true then 1 else 0) := HS
      clear HS
      go_wp2_with (go_at_call 16; refine (inAllowed_any _ _).mono ?_; rintro e w' ⟨rfl, rfl⟩)
      · go_round
        case rel => exact ⟨j + 1, m + 1, by omega, by go_num, by go_num, by omega, by rw [HSn.out, if_pos ‹_›]⟩
        case measure => simp [intOf]; omega
      · go_round
        case rel => exact ⟨j + 1, m, by omega, by go_num, rfl, by omega, by rw [HSn.out, if_neg (by simp [*])]; rfl⟩
        case measure => simp [intOf]; omega
    · have HE : Hid (m = good p.data.toList) := by
        have := HJ.out
        rwa [List.take_of_length_le (by simp; omega)] at this
      clear HJ
      go_wp2
      all_goals
        have hv := HV.out
        rw [← HE.out] at hv
        clear HV HE
        go_ret
        refine ⟨ret_bool ?_, rfl⟩
        rw [hv]
        clear hv
        simp only [Bool.and_eq_true, Bool.or_eq_true, decide_eq_true_eq, decide_eq_false_iff_not, beq_iff_eq, beq_eq_false_iff_ne, ne_eq, Bool.false_eq_true, false_iff, true_iff] at *
        omega
end Go.Proofs.Qxb6600405aDoor
