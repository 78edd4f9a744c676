import Derived.Test.Qxb6600694aDoorWalkA
namespace Go.Proofs.Qxb6600694aDoor
open Go.RowKit Go.Shelf

def blI (c : Int) : Bool := decide (c = 32 ∨ c = 9)
theorem blI_bl (c : UInt8) : blI (c.toNat : Int) = bl c := by
  unfold blI bl
  rw [Bool.eq_iff_iff]
  simp [← UInt8.toNat_inj]
  omega
def tqI (c : Int) : Bool := decide (32 < c ∧ c ≠ 127 ∧ c ≠ 34)
theorem tqI_tg (c : UInt8) (h : (c == 34) = false) : tqI (c.toNat : Int) = tg c := by
  unfold tqI tg
  rw [Bool.eq_iff_iff]
  have h' : ¬ c.toNat = 34 := by
    intro e
    have : c = 34 := UInt8.toNat_inj.1 e
    rw [this] at h; exact absurd h (by decide)
  simp [← UInt8.toNat_inj]
  omega

set_option linter.unusedSimpArgs false
set_option maxHeartbeats 400000 in
theorem space_any (c : Int) (w : World) :
    Calls Tryd.prog 14 #[.int .u8 c] w fun e w' => e = .returned (.bool (blI c)) ∧ w' = w := by
  go_enter Tryd.func14, Tryd.ntmps14
  go_wp2
  all_goals
    go_ret
    refine ⟨ret_bool ?_, rfl⟩
    simp only [blI, Bool.or_eq_true, decide_eq_true_eq, decide_eq_false_iff_not, beq_iff_eq, beq_eq_false_iff_ne, ne_eq, Bool.false_eq_true, false_iff, true_iff] at * <;> omega
set_option maxHeartbeats 400000 in
theorem tagByte_any (c : Int) (w : World) :
    Calls Tryd.prog 9 #[.int .u8 c] w fun e w' => e = .returned (.bool (tqI c)) ∧ w' = w := by
  go_enter Tryd.func9, Tryd.ntmps9
  go_wp2
  all_goals
    go_ret
    refine ⟨ret_bool ?_, rfl⟩
    simp only [tqI, Bool.or_eq_true, Bool.and_eq_true, decide_eq_true_eq, decide_eq_false_iff_not, beq_iff_eq, bne_iff_ne, beq_eq_false_iff_ne, bne_eq_false_iff_eq, ne_eq, Bool.false_eq_true, false_iff, true_iff] at * <;> omega

/-- What zzModelCut hands back. -/
def modRes (wk : Bool) : Option (List UInt8 × List UInt8) → Value
  | none => .tuple #[.bool false, .string ⟨#[]⟩, .string ⟨#[]⟩, .bool false]
  | some x => .tuple #[.bool wk, .string ⟨x.1.toArray⟩, .string ⟨x.2.toArray⟩, .bool true]

/-- The scan, k bytes read. -/
def scanInv (s : ByteArray) (a k : Nat) : Prop := scan (s.data.toList.drop a) = (scan (s.data.toList.drop k)).map (fun x => ((s.extract a k).data.toList ++ x.1, x.2))
theorem scanInv_start (s : ByteArray) (a : Nat) : scanInv s a a := by
  unfold scanInv
  rw [Lib.extract_data]
  cases scan (s.data.toList.drop a) <;> simp
theorem extract_more (s : ByteArray) (t k : Nat) (ht : t ≤ k) (hk : k < s.size) : (s.extract t (k + 1)).data.toList = (s.extract t k).data.toList ++ [s[k]] := by
  rw [Lib.extract_data, Lib.extract_data]
  have hd : s.data.toList.drop t = (s.data.toList.drop t).take (k - t) ++ (s.data.toList.drop k) := by
    conv => lhs; rw [← List.take_append_drop (k - t) (s.data.toList.drop t)]
    rw [List.drop_drop, Nat.add_sub_cancel' ht]
  have hlen : ((s.data.toList.drop t).take (k - t)).length = k - t := by
    rw [List.length_take, List.length_drop]; simp; omega
  rw [hd, drop_cons s k hk]
  rw [List.take_append, List.take_append, hlen]
  rw [List.take_of_length_le (by omega : ((s.data.toList.drop t).take (k - t)).length ≤ k + 1 - t), List.take_of_length_le (by omega : ((s.data.toList.drop t).take (k - t)).length ≤ k - t)]
  have e1 : k + 1 - t - (k - t) = 1 := by omega
  have e2 : k - t - (k - t) = 0 := by omega
  rw [e1, e2]
  simp
theorem ne34 {x : UInt8} (h : ((x.toNat : Int) == 34) = false) : (x == 34) = false := by
  have h2 : ¬ (x.toNat : Int) = 34 := by simpa using h
  simp only [beq_eq_false_iff_ne, ne_eq]
  intro e; subst e; exact h2 rfl
theorem eq34 {x : UInt8} (h : ((x.toNat : Int) == 34) = true) : x = 34 := by
  have h2 : (x.toNat : Int) = 34 := by simpa using h
  exact UInt8.toNat_inj.1 (by show x.toNat = 34; omega)
theorem scanInv_more {s : ByteArray} {a k : Nat} (ha : a ≤ k) (hk : k < s.size) (h : scanInv s a k) (hq : ((s[k].toNat : Int) == 34) = false) (ht : (!tqI (s[k].toNat : Int)) = false) : scanInv s a (k + 1) := by
  have hq' := ne34 hq
  rw [tqI_tg _ hq'] at ht
  have ht' : tg s[k] = true := by simpa using ht
  unfold scanInv at *
  rw [h, drop_cons s k hk, scan, if_neg (by simp [hq']), if_pos ht', extract_more s a k ha hk]
  cases scan (s.data.toList.drop (k + 1)) <;> simp
theorem scanInv_bad {s : ByteArray} {a k : Nat} (hk : k < s.size) (h : scanInv s a k) (hq : ((s[k].toNat : Int) == 34) = false) (ht : (!tqI (s[k].toNat : Int)) = true) : scan (s.data.toList.drop a) = none := by
  have hq' := ne34 hq
  rw [tqI_tg _ hq'] at ht
  have ht' : tg s[k] = false := by simpa using ht
  unfold scanInv at h
  rw [h, drop_cons s k hk, scan, if_neg (by simp [hq']), if_neg (by simp [ht'])]
  rfl
theorem scanInv_end {s : ByteArray} {a k : Nat} (hk : s.size ≤ k) (h : scanInv s a k) : scan (s.data.toList.drop a) = none := by
  unfold scanInv at h
  rw [h, List.drop_eq_nil_of_le (by simpa using hk)]
  rfl
theorem scanInv_hit {s : ByteArray} {a k : Nat} (hk : k < s.size) (h : scanInv s a k) (hq : ((s[k].toNat : Int) == 34) = true) : scan (s.data.toList.drop a) = some ((s.extract a k).data.toList, s.data.toList.drop (k + 1)) := by
  unfold scanInv at h
  rw [h, drop_cons s k hk, eq34 hq]
  simp [scan]

theorem cutQ_end {s : ByteArray} {p : Nat} (hp : s.size ≤ p) : cutQ (s.data.toList.drop p) = none := by
  rw [List.drop_eq_nil_of_le (by simpa using hp)]; rfl
theorem cutQ_no {s : ByteArray} {p : Nat} (hp : p < s.size) (h : ((s[p].toNat : Int) == 34) = false) : cutQ (s.data.toList.drop p) = none := by
  rw [drop_cons s p hp, cutQ, ne34 h]; rfl
theorem cutQ_yes {s : ByteArray} {p : Nat} (hp : p < s.size) (h : ((s[p].toNat : Int) == 34) = true) : cutQ (s.data.toList.drop p) = (scan (s.data.toList.drop (p + 1))).map (fun x => (34 :: (x.1 ++ [34]), x.2)) := by
  rw [drop_cons s p hp, cutQ, eq34 h]; rfl
theorem cutQ_hit {s : ByteArray} {p k : Nat} (hp : p + 1 ≤ k) (hk : k < s.size) (h1 : ((s[p].toNat : Int) == 34) = true) (hi : scanInv s (p + 1) k) (hq : ((s[k].toNat : Int) == 34) = true) :
    cutQ (s.data.toList.drop p) = some ((s.extract p (k + 1)).data.toList, (s.extract (k + 1) s.size).data.toList) := by
  rw [cutQ_yes (by omega) h1, scanInv_hit hk hi hq, Lib.extract_to_end, extract_more s p k (by omega) hk, eq34 hq]
  simp only [Option.map_some]
  have : (s.extract p k).data.toList = 34 :: (s.extract (p + 1) k).data.toList := by
    rw [Lib.extract_data, Lib.extract_data, drop_cons s p (by omega), eq34 h1, show k - p = (k - (p + 1)) + 1 by omega, List.take_succ_cons]
  rw [this]
  rfl

set_option maxHeartbeats 1000000 in
theorem modelCut_w (s : ByteArray) (w : World) (hs : s.size ≤ 1048576) (h2 : 2 ≤ s.size) (h0 : ((s[0].toNat : Int) == 87) = true) (h1 : ((s[1].toNat : Int) == 47) = true) :
    Calls Tryd.prog 15 #[.string s] w fun e w' => e = .returned (modRes true (cutQ (s.data.toList.drop 2))) ∧ Below w.heap.size w w' := by
  by_cases hp : 2 < s.size
  · cases hq : ((s[2].toNat : Int) == 34) with
    | false =>
      have HN := hid (cutQ_no hp hq)
      have hqn : ((s[2].toNat : Int) != 34) = true := by simp [bne, hq]
      go_enter Tryd.func15, Tryd.ntmps15
      go_wp2
      exact bodyPost_ret (v := modRes true none) (by simp [results, Tryd.results15, go_sem, modRes]) rfl ⟨by rw [HN.out], Below.refl _ _⟩
    | true =>
      have HQ := hid hq
      have hqn : ((s[2].toNat : Int) != 34) = false := by simp [bne, hq]
      go_enter Tryd.func15, Tryd.ntmps15
      go_wp2
      go_loop [8] (fun i => ∃ k : Nat, 2 + 1 ≤ k ∧ k ≤ s.size ∧ i = .int .i64 k ∧ scanInv s (2 + 1) k) (fun i => s.size - (intOf i).toNat)
      case atStart => exact ⟨2 + 1, Nat.le_refl _, by omega, rfl, scanInv_start s _⟩
      case round =>
        obtain ⟨k, hk1, hk2, rfl, hi⟩ := hrel
        have HI := hid hi
        clear hi
        by_cases hk : k < s.size
        · cases hkq : ((s[k].toNat : Int) == 34) with
          | false =>
            have hkqn : ((s[k].toNat : Int) != 34) = true := by simp [bne, hkq]
            go_wp2_with (go_at_call 9; refine (tagByte_any _ _).mono ?_; rintro e w' ⟨rfl, rfl⟩)
            · have ht : (!tqI (s[k].toNat : Int)) = true := by assumption
              have HN : Hid (cutQ (s.data.toList.drop 2) = none) := by rw [cutQ_yes hp HQ.out, scanInv_bad hk HI.out hkq ht]; rfl
              exact bodyPost_ret (v := modRes true none) (by simp [results, Tryd.results15, go_sem, modRes]) rfl ⟨by rw [HN.out], Below.refl _ _⟩
            · have ht : (!tqI (s[k].toNat : Int)) = false := by assumption
              go_round
              case rel => exact ⟨k + 1, by omega, by omega, by go_num, scanInv_more hk1 hk HI.out hkq ht⟩
              case measure => simp [intOf]; omega
          | true =>
            have hkqn : ((s[k].toNat : Int) != 34) = false := by simp [bne, hkq]
            have HY := hid (cutQ_hit hk1 hk HQ.out HI.out hkq)
            go_wp2
            go_quiet (fail)
            go_wp2
            exact bodyPost_ret (v := .tuple #[.bool true, .string (s.extract 2 (k + 1)), .string (s.extract (k + 1) s.size), .bool true]) (by simp [results, Tryd.results15, go_sem]) rfl ⟨by rw [HY.out]; rfl, below_drewN (Below.refl _ _) _⟩
        · have HN : Hid (cutQ (s.data.toList.drop 2) = none) := by rw [cutQ_yes hp HQ.out, scanInv_end (by omega) HI.out]; rfl
          go_wp2
          exact bodyPost_ret (v := modRes true none) (by simp [results, Tryd.results15, go_sem, modRes]) rfl ⟨by rw [HN.out], Below.refl _ _⟩
  · have HN := hid (cutQ_end (s := s) (p := 2) (by omega))
    go_enter Tryd.func15, Tryd.ntmps15
    go_wp2
    exact bodyPost_ret (v := modRes true none) (by simp [results, Tryd.results15, go_sem, modRes]) rfl ⟨by rw [HN.out], Below.refl _ _⟩

set_option maxHeartbeats 1000000 in
theorem modelCut_0 (s : ByteArray) (w : World) (hs : s.size ≤ 1048576) (h2 : s.size < 2) :
    Calls Tryd.prog 15 #[.string s] w fun e w' => e = .returned (modRes false (cutQ s.data.toList)) ∧ Below w.heap.size w w' := by
  have hd2 : decide ((2 : Int) ≤ (s.size : Int)) = false := decide_eq_false (by omega)
  by_cases hp : 0 < s.size
  · have hne : ¬ s = ByteArray.empty := by intro e; subst e; exact absurd hp (by decide)
    cases hq : ((s[0].toNat : Int) == 34) with
    | false =>
      have HN := hid (show cutQ s.data.toList = none from cutQ_no hp hq)
      have hqn : ((s[0].toNat : Int) != 34) = true := by simp [bne, hq]
      go_enter Tryd.func15, Tryd.ntmps15
      go_wp2
      exact bodyPost_ret (v := modRes false none) (by simp [results, Tryd.results15, go_sem, modRes]) rfl ⟨by rw [HN.out], Below.refl _ _⟩
    | true =>
      have HQ := hid hq
      have hqn : ((s[0].toNat : Int) != 34) = false := by simp [bne, hq]
      go_enter Tryd.func15, Tryd.ntmps15
      go_wp2
      go_loop [8] (fun i => ∃ k : Nat, 0 + 1 ≤ k ∧ k ≤ s.size ∧ i = .int .i64 k ∧ scanInv s (0 + 1) k) (fun i => s.size - (intOf i).toNat)
      case atStart => exact ⟨0 + 1, Nat.le_refl _, by omega, rfl, scanInv_start s _⟩
      case round =>
        obtain ⟨k, hk1, hk2, rfl, hi⟩ := hrel
        have HI := hid hi
        clear hi
        by_cases hk : k < s.size
        · exact absurd hk (by omega)
        · have HN : Hid (cutQ s.data.toList = none) := hid (show cutQ (s.data.toList.drop 0) = none by rw [cutQ_yes hp HQ.out, scanInv_end (by omega) HI.out]; rfl)
          go_wp2
          exact bodyPost_ret (v := modRes false none) (by simp [results, Tryd.results15, go_sem, modRes]) rfl ⟨by rw [HN.out], Below.refl _ _⟩
  · have hl0 : s.data.toList.length = s.size := by simp
    have hem : s = ByteArray.empty := bytes_inj s ByteArray.empty (List.length_eq_zero_iff.1 (by omega))
    clear hl0
    subst hem
    clear hd2
    go_enter Tryd.func15, Tryd.ntmps15
    go_wp2
    exact bodyPost_ret (v := modRes false none) (by simp [results, Tryd.results15, go_sem, modRes]) rfl ⟨rfl, Below.refl _ _⟩

set_option maxHeartbeats 1000000 in
theorem modelCut_1 (s : ByteArray) (w : World) (hs : s.size ≤ 1048576) (h2 : 2 ≤ s.size) (h0 : ((s[0].toNat : Int) == 87) = false) :
    Calls Tryd.prog 15 #[.string s] w fun e w' => e = .returned (modRes false (cutQ s.data.toList)) ∧ Below w.heap.size w w' := by
  by_cases hp : 0 < s.size
  · have hne : ¬ s = ByteArray.empty := by intro e; subst e; exact absurd hp (by decide)
    cases hq : ((s[0].toNat : Int) == 34) with
    | false =>
      have HN := hid (show cutQ s.data.toList = none from cutQ_no hp hq)
      have hqn : ((s[0].toNat : Int) != 34) = true := by simp [bne, hq]
      go_enter Tryd.func15, Tryd.ntmps15
      go_wp2
      exact bodyPost_ret (v := modRes false none) (by simp [results, Tryd.results15, go_sem, modRes]) rfl ⟨by rw [HN.out], Below.refl _ _⟩
    | true =>
      have HQ := hid hq
      have hqn : ((s[0].toNat : Int) != 34) = false := by simp [bne, hq]
      go_enter Tryd.func15, Tryd.ntmps15
      go_wp2
      go_loop [8] (fun i => ∃ k : Nat, 0 + 1 ≤ k ∧ k ≤ s.size ∧ i = .int .i64 k ∧ scanInv s (0 + 1) k) (fun i => s.size - (intOf i).toNat)
      case atStart => exact ⟨0 + 1, Nat.le_refl _, by omega, rfl, scanInv_start s _⟩
      case round =>
        obtain ⟨k, hk1, hk2, rfl, hi⟩ := hrel
        have HI := hid hi
        clear hi
        by_cases hk : k < s.size
        · cases hkq : ((s[k].toNat : Int) == 34) with
          | false =>
            have hkqn : ((s[k].toNat : Int) != 34) = true := by simp [bne, hkq]
            go_wp2_with (go_at_call 9; refine (tagByte_any _ _).mono ?_; rintro e w' ⟨rfl, rfl⟩)
            · have ht : (!tqI (s[k].toNat : Int)) = true := by assumption
              have HN : Hid (cutQ s.data.toList = none) := hid (show cutQ (s.data.toList.drop 0) = none by rw [cutQ_yes hp HQ.out, scanInv_bad hk HI.out hkq ht]; rfl)
              exact bodyPost_ret (v := modRes false none) (by simp [results, Tryd.results15, go_sem, modRes]) rfl ⟨by rw [HN.out], Below.refl _ _⟩
            · have ht : (!tqI (s[k].toNat : Int)) = false := by assumption
              go_round
              case rel => exact ⟨k + 1, by omega, by omega, by go_num, scanInv_more hk1 hk HI.out hkq ht⟩
              case measure => simp [intOf]; omega
          | true =>
            have hkqn : ((s[k].toNat : Int) != 34) = false := by simp [bne, hkq]
            have HY := hid (show cutQ s.data.toList = _ from cutQ_hit hk1 hk HQ.out HI.out hkq)
            go_wp2
            go_quiet (fail)
            go_wp2
            exact bodyPost_ret (v := .tuple #[.bool false, .string (s.extract 0 (k + 1)), .string (s.extract (k + 1) s.size), .bool true]) (by simp [results, Tryd.results15, go_sem]) rfl ⟨by rw [HY.out]; rfl, below_drewN (Below.refl _ _) _⟩
        · have HN : Hid (cutQ s.data.toList = none) := hid (show cutQ (s.data.toList.drop 0) = none by rw [cutQ_yes hp HQ.out, scanInv_end (by omega) HI.out]; rfl)
          go_wp2
          exact bodyPost_ret (v := modRes false none) (by simp [results, Tryd.results15, go_sem, modRes]) rfl ⟨by rw [HN.out], Below.refl _ _⟩
  · exact absurd (show 0 < s.size by omega) hp

set_option maxHeartbeats 1000000 in
theorem modelCut_2 (s : ByteArray) (w : World) (hs : s.size ≤ 1048576) (h2 : 2 ≤ s.size) (h0 : ((s[0].toNat : Int) == 87) = true) (h1 : ((s[1].toNat : Int) == 47) = false) :
    Calls Tryd.prog 15 #[.string s] w fun e w' => e = .returned (modRes false (cutQ s.data.toList)) ∧ Below w.heap.size w w' := by
  by_cases hp : 0 < s.size
  · have hne : ¬ s = ByteArray.empty := by intro e; subst e; exact absurd hp (by decide)
    cases hq : ((s[0].toNat : Int) == 34) with
    | false =>
      have HN := hid (show cutQ s.data.toList = none from cutQ_no hp hq)
      have hqn : ((s[0].toNat : Int) != 34) = true := by simp [bne, hq]
      go_enter Tryd.func15, Tryd.ntmps15
      go_wp2
      exact bodyPost_ret (v := modRes false none) (by simp [results, Tryd.results15, go_sem, modRes]) rfl ⟨by rw [HN.out], Below.refl _ _⟩
    | true =>
      have HQ := hid hq
      have hqn : ((s[0].toNat : Int) != 34) = false := by simp [bne, hq]
      go_enter Tryd.func15, Tryd.ntmps15
      go_wp2
      go_loop [8] (fun i => ∃ k : Nat, 0 + 1 ≤ k ∧ k ≤ s.size ∧ i = .int .i64 k ∧ scanInv s (0 + 1) k) (fun i => s.size - (intOf i).toNat)
      case atStart => exact ⟨0 + 1, Nat.le_refl _, by omega, rfl, scanInv_start s _⟩
      case round =>
        obtain ⟨k, hk1, hk2, rfl, hi⟩ := hrel
        have HI := hid hi
        clear hi
        by_cases hk : k < s.size
        · cases hkq : ((s[k].toNat : Int) == 34) with
          | false =>
            have hkqn : ((s[k].toNat : Int) != 34) = true := by simp [bne, hkq]
            go_wp2_with (go_at_call 9; refine (tagByte_any _ _).mono ?_; rintro e w' ⟨rfl, rfl⟩)
            · have ht : (!tqI (s[k].toNat : Int)) = true := by assumption
              have HN : Hid (cutQ s.data.toList = none) := hid (show cutQ (s.data.toList.drop 0) = none by rw [cutQ_yes hp HQ.out, scanInv_bad hk HI.out hkq ht]; rfl)
              exact bodyPost_ret (v := modRes false none) (by simp [results, Tryd.results15, go_sem, modRes]) rfl ⟨by rw [HN.out], Below.refl _ _⟩
            · have ht : (!tqI (s[k].toNat : Int)) = false := by assumption
              go_round
              case rel => exact ⟨k + 1, by omega, by omega, by go_num, scanInv_more hk1 hk HI.out hkq ht⟩
              case measure => simp [intOf]; omega
          | true =>
            have hkqn : ((s[k].toNat : Int) != 34) = false := by simp [bne, hkq]
            have HY := hid (show cutQ s.data.toList = _ from cutQ_hit hk1 hk HQ.out HI.out hkq)
            go_wp2
            go_quiet (fail)
            go_wp2
            exact bodyPost_ret (v := .tuple #[.bool false, .string (s.extract 0 (k + 1)), .string (s.extract (k + 1) s.size), .bool true]) (by simp [results, Tryd.results15, go_sem]) rfl ⟨by rw [HY.out]; rfl, below_drewN (Below.refl _ _) _⟩
        · have HN : Hid (cutQ s.data.toList = none) := hid (show cutQ (s.data.toList.drop 0) = none by rw [cutQ_yes hp HQ.out, scanInv_end (by omega) HI.out]; rfl)
          go_wp2
          exact bodyPost_ret (v := modRes false none) (by simp [results, Tryd.results15, go_sem, modRes]) rfl ⟨by rw [HN.out], Below.refl _ _⟩
  · exact absurd (show 0 < s.size by omega) hp


theorem isW_true {s : ByteArray} (h2 : 2 ≤ s.size) (h0 : ((s[0].toNat : Int) == 87) = true) (h1 : ((s[1].toNat : Int) == 47) = true) : isW s.data.toList = true := by
  have e0 : s[0] = 87 := UInt8.toNat_inj.1 (by have h : (s[0].toNat : Int) = 87 := by simpa using h0
                                               show s[0].toNat = 87; omega)
  have e1 : s[1] = 47 := UInt8.toNat_inj.1 (by have h : (s[1].toNat : Int) = 47 := by simpa using h1
                                               show s[1].toNat = 47; omega)
  have : s.data.toList = 87 :: 47 :: s.data.toList.drop 2 := by
    conv => lhs; rw [← List.drop_zero (l := s.data.toList)]
    rw [drop_cons s 0 (by omega), drop_cons s 1 (by omega), e0, e1]
  rw [this]; rfl
theorem isW_false {s : ByteArray} (h2 : 2 ≤ s.size) (h : ((s[0].toNat : Int) == 87) = false ∨ ((s[1].toNat : Int) == 47) = false) : isW s.data.toList = false := by
  have : s.data.toList = s[0] :: s[1] :: s.data.toList.drop 2 := by
    conv => lhs; rw [← List.drop_zero (l := s.data.toList)]
    rw [drop_cons s 0 (by omega), drop_cons s 1 (by omega)]
  rw [this]
  show (s[0] == 87 && s[1] == 47) = false
  clear this
  rcases h with h | h
  · have : (s[0] == 87) = false := by
      have h' : ¬ (s[0].toNat : Int) = 87 := by simpa using h
      simp only [beq_eq_false_iff_ne, ne_eq]
      intro e; rw [e] at h'; exact h' rfl
    rw [this]; rfl
  · have : (s[1] == 47) = false := by
      have h' : ¬ (s[1].toNat : Int) = 47 := by simpa using h
      simp only [beq_eq_false_iff_ne, ne_eq]
      intro e; rw [e] at h'; exact h' rfl
    rw [this, Bool.and_false]
theorem isW_short {s : ByteArray} (h2 : s.size < 2) : isW s.data.toList = false := by
  have hl : s.data.toList.length < 2 := by simpa using h2
  match h : s.data.toList with
  | [] => rfl
  | [a] => rfl
  | a :: b :: r => rw [h] at hl; simp at hl; omega

theorem modelCut_any (s : ByteArray) (w : World) (hs : s.size ≤ 1048576) :
    Calls Tryd.prog 15 #[.string s] w fun e w' => e = .returned (modRes (isW s.data.toList) (cutQ (if isW s.data.toList then s.data.toList.drop 2 else s.data.toList))) ∧ Below w.heap.size w w' := by
  by_cases h2 : 2 ≤ s.size
  · cases h0 : ((s[0].toNat : Int) == 87) with
    | false =>
      rw [isW_false h2 (.inl h0)]
      exact modelCut_1 s w hs h2 h0
    | true =>
      cases h1 : ((s[1].toNat : Int) == 47) with
      | false =>
        rw [isW_false h2 (.inr h1)]
        exact modelCut_2 s w hs h2 h0 h1
      | true =>
        rw [isW_true h2 h0 h1]
        exact modelCut_w s w hs h2 h0 h1
  · rw [isW_short (by omega)]
    exact modelCut_0 s w hs (by omega)
end Go.Proofs.Qxb6600694aDoor
