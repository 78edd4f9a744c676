import Derived.Test.Qxb6600405aDoorWalkD
import Derived.Lib.SliceRun
namespace Go.Proofs.Qxb6600405aDoor
open Go.RowKit Go.Shelf

theorem hid {p : Prop} (h : p) : Hid p := h
theorem eqNil (w : World) (a : Option Addr) (n c : Nat) : (binOp .eql 23 (.slice a n c) (.slice none 0 0)).run Tryd.prog w = .ok (.bool a.isNone) w := Lib.run_eql_slice_nil (P := Tryd.prog) w 23 9 a n c 0 0 Tryd.underlying23

set_option maxHeartbeats 400000 in
theorem same_some (ps : List ByteArray) (B1 c1 B2 c2 : Nat) (w : World) (hlen : ps.length ≤ 4294967296)
    (h1 : ∀ i, i < ps.length → w.cell? ⟨B1, i, none⟩ = some (.string (ps.getD i ByteArray.empty))) (h2 : ∀ i, i < ps.length → w.cell? ⟨B2, i, none⟩ = some (.string (ps.getD i ByteArray.empty))) :
    Calls Tryd.prog 8 #[.slice (some ⟨B1, 0, none⟩) ps.length c1, .slice (some ⟨B2, 0, none⟩) ps.length c2] w fun e w' => e = .returned (.bool true) ∧ ∃ n, w' = w.drewN n := by
  have H1 : Hid (∀ i, i < ps.length → w.cell? ⟨B1, i, none⟩ = some (.string (ps.getD i ByteArray.empty))) := h1
  have H2 : Hid (∀ i, i < ps.length → w.cell? ⟨B2, i, none⟩ = some (.string (ps.getD i ByteArray.empty))) := h2
  clear h1 h2
  have hn := eqNil
  go_enter Tryd.func8, Tryd.ntmps8
  go_wp2
  clear hn
  go_loopw [5] (fun i wr => ∃ (k n : Nat), k ≤ ps.length ∧ i = .int .i64 k ∧ wr = w.drewN n) (fun i _ => ps.length - (intOf i).toNat)
  case atStart => exact ⟨0, 0, Nat.zero_le _, rfl, rfl⟩
  case round =>
    obtain ⟨k, n, hk, rfl, rfl⟩ := hrel
    by_cases hlt : k < ps.length
    · have hc1 := H1.out k hlt
      have hc2 := H2.out k hlt
      obtain ⟨p, hp⟩ : ∃ p, ps.getD k ByteArray.empty = p := ⟨_, rfl⟩
      rw [hp] at hc1 hc2
      clear hp
      go_wp2
      go_quiet (fail)
      go_wp2
      go_roundw
      case rel => exact ⟨k + 1, _, by omega, by go_num, rfl⟩
      case measure => simp [intOf]; omega
    · go_wp2
      go_ret
      exact ⟨rfl, n, rfl⟩

set_option maxHeartbeats 400000 in
theorem same_nil (w : World) :
    Calls Tryd.prog 8 #[.slice none 0 0, .slice none 0 0] w fun e w' => e = .returned (.bool true) ∧ w' = w := by
  have hn := eqNil
  go_enter Tryd.func8, Tryd.ntmps8
  go_wp2
  clear hn
  go_loop [5] (fun i => i = .int .i64 0) (fun _ => 0)
  case atStart => rfl
  case round =>
    subst hrel
    go_wp2
    go_ret
    exact ⟨rfl, rfl⟩

set_option maxHeartbeats 400000 in
theorem model_empty (s : ByteArray) (w : World) (he : ((s.size : Int) == 0) = true) :
    Calls Tryd.prog 7 #[.string s] w fun e w' => ∃ v, e = .returned (.tuple #[v, .string ByteArray.empty, .bool true]) ∧ holdsS w' v [] ∧ Below w.heap.size w w' := by
  go_enter Tryd.func7, Tryd.ntmps7
  go_wp2
  go_ret3
  exact ⟨_, rfl, ⟨_, _, rfl, fun i hi => absurd hi (Nat.not_lt_zero _)⟩, (Below.refl _ _).alloc (Nat.le_refl _) _⟩

theorem bytes_inj : ∀ x y : ByteArray, x.data.toList = y.data.toList → x = y := by
  rintro ⟨⟨x⟩⟩ ⟨⟨y⟩⟩ h
  simp at h
  rw [h]
theorem map_inj {l l' : List ByteArray} (h : l.map (·.data.toList) = l'.map (·.data.toList)) : l = l' :=
  (List.map_inj_right bytes_inj).1 h

/-- What both splitters hand back where every piece is valid. -/
def goodP (w : World) (ps : List ByteArray) (e : Ending) (w' : World) : Prop := ∃ v, e = .returned (.tuple #[v, .string ByteArray.empty, .bool true]) ∧ holdsS w' v ps ∧ Below w.heap.size w w'
def badP (w : World) (p : ByteArray) (e : Ending) (w' : World) : Prop := e = .returned (.tuple #[.slice none 0 0, .string p, .bool false]) ∧ Below w.heap.size w w'

set_option maxHeartbeats 400000 in
theorem law3_good (s : ByteArray) (w : World) (hs : s.size ≤ 1048576) (ps : List ByteArray) (hlen : ps.length ≤ 1048577)
    (c6 : ∀ w, Calls Tryd.prog 6 #[.string s] w (goodP w ps)) (c7 : ∀ w, Calls Tryd.prog 7 #[.string s] w (goodP w ps)) :
    Calls Tryd.prog 3 #[.string s] w fun e w' => e = .returned (.bool true) ∧ Below w.heap.size w w' := by
  have H6 := hid c6
  have H7 := hid c7
  clear c6 c7
  go_enter Tryd.func3, Tryd.ntmps3
  go_wp2_with (go_at_call 5; go_in)
  refine (H6.out _).mono ?_
  rintro e w1 ⟨v1, rfl, ⟨B1, k1, rfl, h1⟩, hb1⟩
  have hs1 : holdsS w1 (.slice (some ⟨B1, 0, none⟩) ps.length k1) ps := ⟨B1, k1, rfl, h1⟩
  have HS1 := hid hs1
  clear h1 hs1 H6
  go_wp2_with fail
  refine (H7.out _).mono ?_
  rintro e w2 ⟨v2, rfl, ⟨B2, k2, rfl, h2⟩, hb2⟩
  obtain ⟨_, _, he1, h1⟩ := HS1.out.below hb2
  cases he1
  have c8 := same_some ps B1 k1 B2 k2 w2 (by omega) h1 h2
  clear h1 h2 HS1 H7
  have HB : Hid (Below w.heap.size w w2) := hb1.trans (hb2.mono hb1.size)
  clear hb1 hb2
  go_wp2_with fail
  refine c8.mono ?_
  rintro e w3 ⟨rfl, n, rfl⟩
  go_wp2
  go_ret
  exact ⟨rfl, below_drewN HB.out n⟩

set_option maxHeartbeats 400000 in
theorem law3_bad (s : ByteArray) (w : World) (hs : s.size ≤ 1048576) (p : ByteArray)
    (c6 : ∀ w, Calls Tryd.prog 6 #[.string s] w (badP w p)) (c7 : ∀ w, Calls Tryd.prog 7 #[.string s] w (badP w p)) :
    Calls Tryd.prog 3 #[.string s] w fun e w' => e = .returned (.bool true) ∧ Below w.heap.size w w' := by
  have H6 := hid c6
  have H7 := hid c7
  clear c6 c7
  go_enter Tryd.func3, Tryd.ntmps3
  go_wp2_with (go_at_call 5; go_in)
  refine (H6.out _).mono ?_
  rintro e w1 ⟨rfl, hb1⟩
  go_wp2_with fail
  refine (H7.out _).mono ?_
  rintro e w2 ⟨rfl, hb2⟩
  clear H6 H7
  have HB : Hid (Below w.heap.size w w2) := hb1.trans (hb2.mono hb1.size)
  clear hb1 hb2
  go_wp2_with fail
  refine (same_nil _).mono ?_
  rintro e w3 ⟨rfl, rfl⟩
  go_wp2
  go_ret
  exact ⟨rfl, HB.out⟩

theorem law3_any (s : ByteArray) (w : World) (hs : s.size ≤ maxLen) :
    Calls Tryd.prog 3 #[.string s] w fun e w' => e = .returned (.bool true) ∧ Below w.heap.size w w' := by
  unfold maxLen at hs
  by_cases hb : s.size ≤ 1048576
  · by_cases h0 : s.size = 0
    · have hl : s.data.toList = [] := by
        have : s.data.toList.length = s.size := by simp
        exact List.length_eq_zero_iff.1 (by omega)
      exact law3_good s w hb [] (by simp) (fun w => list_empty s w (by rw [Lib.toList_data, hl]; rfl)) (fun w => model_empty s w (by simp [h0]))
    · have he : s.toList.isEmpty = false := by
        rw [Lib.toList_data]
        cases h : s.data.toList with
        | nil =>
          have : s.data.toList.length = s.size := by simp
          rw [h] at this; simp at this; omega
        | cons a t => rfl
      have hle := pieces_le s
      have c6 := fun w => list_some s w he (pieces s) (by omega) (split_at s w (by omega))
      have c7 := fun w => model_some s w (by omega) hb
      cases hf : firstBad (pieces s) with
      | none =>
        refine law3_good s w hb (pieces s) (by omega) (fun w => (c6 w).mono fun e w' h => ?_) (fun w => (c7 w).mono fun e w' h => ?_)
        · obtain ⟨hb', ⟨_, v, h1, h2⟩ | ⟨p, h1, _⟩⟩ := h
          · exact ⟨v, h1, h2, hb'⟩
          · rw [hf] at h1; cases h1
        · obtain ⟨hb', qs, hq, h⟩ := h
          rw [← pieces_cut] at hq
          obtain rfl := map_inj hq
          rcases h with ⟨_, v, h1, h2⟩ | ⟨p, h1, _⟩
          · exact ⟨v, h1, h2, hb'⟩
          · rw [hf] at h1; cases h1
      | some p =>
        refine law3_bad s w hb p (fun w => (c6 w).mono fun e w' h => ?_) (fun w => (c7 w).mono fun e w' h => ?_)
        · obtain ⟨hb', ⟨h1, _⟩ | ⟨p', h1, h2⟩⟩ := h
          · rw [hf] at h1; cases h1
          · rw [hf] at h1; cases h1; exact ⟨h2, hb'⟩
        · obtain ⟨hb', qs, hq, h⟩ := h
          rw [← pieces_cut] at hq
          obtain rfl := map_inj hq
          rcases h with ⟨h1, _⟩ | ⟨p', h1, h2⟩
          · rw [hf] at h1; cases h1
          · rw [hf] at h1; cases h1; exact ⟨h2, hb'⟩
  · go_enter Tryd.func3, Tryd.ntmps3
    go_wp2
    go_ret
    exact ⟨rfl, Below.refl _ _⟩
end Go.Proofs.Qxb6600405aDoor
