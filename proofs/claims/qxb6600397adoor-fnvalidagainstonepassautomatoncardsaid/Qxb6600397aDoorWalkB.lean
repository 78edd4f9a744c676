import Derived.Test.Qxb6600397aDoorWalkA
import Derived.Below
namespace Go.Proofs.Qxb6600397aDoor
open Go.RowKit

theorem drop_cons (s : ByteArray) (k : Nat) (h : k < s.size) : s.data.toList.drop k = s[k] :: s.data.toList.drop (k + 1) := by
  rw [List.drop_eq_getElem_cons (by simpa using h)]; rfl
theorem take_snoc (s : ByteArray) (k : Nat) (h : k < s.size) : s.data.toList.take (k + 1) = s.data.toList.take k ++ [s[k]] := by
  rw [List.take_succ_eq_append_getElem (by simpa using h)]; rfl
theorem eq46 {x : UInt8} (h : ((x.toNat : Int) == 46) = true) : x = 46 := by
  have h2 : (x.toNat : Int) = 46 := by simpa using h
  exact UInt8.toNat_inj.1 (by show x.toNat = 46; omega)
theorem ne46 {x : UInt8} (h : ((x.toNat : Int) == 46) = false) : (x == 46) = false := by
  have h2 : ¬ (x.toNat : Int) = 46 := by simpa using h
  simp only [beq_eq_false_iff_ne, ne_eq]
  intro e; subst e; exact h2 rfl
theorem step_dt {x : UInt8} {l : List UInt8} (h : ((x.toNat : Int) == 46) = true) : aut true (x :: l) = false := by
  rw [eq46 h]; rfl
theorem step_df {x : UInt8} {l : List UInt8} (h : ((x.toNat : Int) == 46) = true) : aut false (x :: l) = aut true l := by
  rw [eq46 h]; rfl
theorem step_w {x : UInt8} {l : List UInt8} {b : Bool} (h : ((x.toNat : Int) == 46) = false) (hw : wbI (x.toNat : Int) = true) : aut b (x :: l) = aut false l := by
  rw [wbI_wb] at hw
  rw [aut, ne46 h, hw]; rfl
theorem step_n {x : UInt8} {l : List UInt8} {b : Bool} (h : ((x.toNat : Int) == 46) = false) (hw : wbI (x.toNat : Int) = false) : aut b (x :: l) = false := by
  rw [wbI_wb] at hw
  rw [aut, ne46 h, hw]; rfl
theorem ret_b {a b : Bool} (h : a = b) : Ending.returned (.bool a) = .returned (.bool b) := by rw [h]

set_option maxHeartbeats 400000 in
theorem model_any (s : ByteArray) (w : World) (hs : s.size ≤ 1048576) :
    Calls Tryd.prog 7 #[.string s] w fun e w' => e = .returned (.bool (aut true s.data.toList)) ∧ w' = w := by
  go_enter Tryd.func7, Tryd.ntmps7
  go_wp2
  go_loop [3, 4] (fun st i => ∃ (k : Nat) (b : Bool), k ≤ s.size ∧ i = .int .i64 k ∧ st = .bool b ∧ aut true s.data.toList = aut b (s.data.toList.drop k)) (fun _ i => s.size - (intOf i).toNat)
  case atStart => exact ⟨0, true, Nat.zero_le _, rfl, rfl, rfl⟩
  case round =>
    obtain ⟨k, b, hk, rfl, rfl, ha⟩ := hrel
    by_cases hlt : k < s.size
    · have HA : Hid (aut true s.data.toList = aut b (s[k] :: s.data.toList.drop (k + 1))) := by rw [← drop_cons s k hlt]; exact ha
      clear ha
      cases b
      · go_wp2_with (go_at_call 11; refine (wordByte2_any _ _).mono ?_; rintro e w' ⟨rfl, rfl⟩)
        · go_round
          case rel => exact ⟨k + 1, true, by omega, by go_num, rfl, HA.out.trans (step_df ‹_›)⟩
          case measure => simp [intOf]; omega
        · go_round
          case rel => exact ⟨k + 1, false, by omega, by go_num, rfl, HA.out.trans (step_w ‹_› ‹_›)⟩
          case measure => simp [intOf]; omega
        · go_ret
          exact ⟨ret_b (HA.out.trans (step_n ‹_› ‹_›)).symm, rfl⟩
      · go_wp2_with (go_at_call 11; refine (wordByte2_any _ _).mono ?_; rintro e w' ⟨rfl, rfl⟩)
        · go_ret
          exact ⟨ret_b (HA.out.trans (step_dt ‹_›)).symm, rfl⟩
        · go_round
          case rel => exact ⟨k + 1, false, by omega, by go_num, rfl, HA.out.trans (step_w ‹_› ‹_›)⟩
          case measure => simp [intOf]; omega
        · go_ret
          exact ⟨ret_b (HA.out.trans (step_n ‹_› ‹_›)).symm, rfl⟩
    · have HA : Hid (aut true s.data.toList = !b) := by
        rw [List.drop_eq_nil_of_le (by simp; omega)] at ha; exact ha
      clear ha
      go_wp2
      go_ret
      exact ⟨ret_b HA.out.symm, rfl⟩

def okB (p : ByteArray) : Bool := okSeg p.data.toList
theorem okB_empty {p : ByteArray} (h : p.toList.isEmpty = true) : okB p = false := by
  rw [Lib.toList_data] at h
  unfold okB okSeg; rw [h]; rfl
theorem okB_byte {p : ByteArray} {j : Nat} (hj : j < p.size) (h : (!wbI (p[j].toNat : Int)) = true) : okB p = false := by
  rw [wbI_wb] at h
  replace h : wb p[j] = false := by simpa using h
  unfold okB okSeg
  have : p.data.toList.all wb = false := by
    rw [List.all_eq_false]
    exact ⟨p[j], by rw [← List.take_append_drop j p.data.toList, drop_cons p j hj]; simp, by simp [h]⟩
  rw [this, Bool.and_false]
theorem okB_full {p : ByteArray} {j : Nat} (hn : p.toList.isEmpty = false) (hj : p.size ≤ j) (h : (p.data.toList.take j).all wb = true) : okB p = true := by
  rw [Lib.toList_data] at hn
  rw [List.take_of_length_le (by simpa using hj)] at h
  unfold okB okSeg; rw [hn, h]; rfl
theorem take_ok {p : ByteArray} {j : Nat} (hj : j < p.size) (h : (p.data.toList.take j).all wb = true) (hw : (!wbI (p[j].toNat : Int)) = false) : (p.data.toList.take (j + 1)).all wb = true := by
  rw [wbI_wb] at hw
  replace hw : wb p[j] = true := by simpa using hw
  rw [take_snoc p j hj, List.all_append, h]; simp [hw]

theorem all_no {ps : List ByteArray} {k : Nat} {p : ByteArray} (hk : k < ps.length) (hp : ps.getD k ByteArray.empty = p) (h : okB p = false) : ps.all okB = false := by
  rw [List.all_eq_false]
  refine ⟨p, ?_, by simp [h]⟩
  rw [← hp, List.getD_eq_getElem?_getD, List.getElem?_eq_getElem hk]
  exact List.getElem_mem hk
theorem all_more {ps : List ByteArray} {k : Nat} {p : ByteArray} (hk : k < ps.length) (hp : ps.getD k ByteArray.empty = p) (h : okB p = true) (ha : (ps.take k).all okB = true) : (ps.take (k + 1)).all okB = true := by
  rw [List.getD_eq_getElem?_getD, List.getElem?_eq_getElem hk] at hp
  have hp' : ps[k] = p := hp
  rw [List.take_succ_eq_append_getElem hk, List.all_append, ha, hp']; simp [h]
set_option maxHeartbeats 400000 in
theorem valid_of_split (s : ByteArray) (w : World) (ps : List ByteArray) (hn : s.toList.isEmpty = false) (hlen : ps.length ≤ 1048577) (hps : ∀ i, i < ps.length → (ps.getD i ByteArray.empty).size ≤ 1048576)
    (hsplit : Calls Tryd.prog 9 #[.string s, .string ⟨#[46]⟩] w fun e w' => ∃ B, e = .returned (.slice (some ⟨B, 0, none⟩) ps.length ps.length) ∧ (∀ i, i < ps.length → w'.cell? ⟨B, i, none⟩ = some (.string (ps.getD i ByteArray.empty))) ∧ Below w.heap.size w w') :
    Calls Tryd.prog 6 #[.string s] w fun e w' => e = .returned (.bool (ps.all okB)) ∧ Below w.heap.size w w' := by
  go_enter Tryd.func6, Tryd.ntmps6
  go_wp2_with fail
  refine hsplit.mono ?_
  clear hsplit
  rintro e w1 ⟨B, rfl, hcell, hb⟩
  have HC : Hid (∀ i, i < ps.length → w1.cell? ⟨B, i, none⟩ = some (.string (ps.getD i ByteArray.empty))) := hcell
  clear hcell
  go_wp2_with fail
  go_loop [11] (fun i => ∃ k : Nat, k ≤ ps.length ∧ i = .int .i64 k ∧ (ps.take k).all okB = true) (fun i => ps.length - (intOf i).toNat)
  case atStart => exact ⟨0, Nat.zero_le _, rfl, rfl⟩
  case round =>
    obtain ⟨k, hk, rfl, ha⟩ := hrel
    have HA : Hid ((ps.take k).all okB = true) := ha
    clear ha
    by_cases hlt : k < ps.length
    · have hc := HC.out k hlt
      obtain ⟨p, hp⟩ : ∃ p, ps.getD k ByteArray.empty = p := ⟨_, rfl⟩
      rw [hp] at hc
      have HP : Hid (ps.getD k ByteArray.empty = p) := hp
      clear hp
      have hsz : p.size ≤ 1048576 := by rw [← HP.out]; exact hps k hlt
      by_cases he : p.toList.isEmpty = true
      · go_wp2
        go_ret
        exact ⟨ret_b (all_no hlt HP.out (okB_empty he)).symm, hb⟩
      · have he' : p.toList.isEmpty = false := by simpa using he
        clear he
        go_wp2_with fail
        go_loop [5] (fun i => ∃ j : Nat, j ≤ p.size ∧ i = .int .i64 j ∧ (p.data.toList.take j).all wb = true) (fun i => p.size - (intOf i).toNat)
        case atStart => exact ⟨0, Nat.zero_le _, rfl, rfl⟩
        case round =>
          obtain ⟨j, hj, rfl, hj2⟩ := hrel
          have HJ : Hid ((p.data.toList.take j).all wb = true) := hj2
          clear hj2
          by_cases hjl : j < p.size
          · go_wp2_with (go_at_call 10; refine (wordByte_any _ _).mono ?_; rintro e w' ⟨rfl, rfl⟩)
            · go_ret
              exact ⟨ret_b (all_no hlt HP.out (okB_byte hjl ‹_›)).symm, hb⟩
            · go_round
              case rel => exact ⟨j + 1, by omega, by go_num, take_ok hjl HJ.out ‹_›⟩
              case measure => simp [intOf]; omega
          · go_wp2
            go_round
            case rel => exact ⟨k + 1, by omega, by go_num, all_more hlt HP.out (okB_full he' (by omega) HJ.out) HA.out⟩
            case measure => simp [intOf]; omega
    · go_wp2
      go_ret
      exact ⟨ret_b (by rw [← HA.out, List.take_of_length_le (by omega)]), hb⟩
end Go.Proofs.Qxb6600397aDoor
