import Derived.Test.Qxb6600694aDoorWalkF
namespace Go.Proofs.Qxb6600694aDoor
open Go.RowKit Go.Shelf

theorem mach_len : ∀ (f : Nat) (a : Bool) (l : List UInt8) (ts : List (Bool × List UInt8)), mach f a l = some ts → ts.length ≤ l.length
  | 0, _, _, _, h => by cases h
  | _ + 1, _, [], _, h => by cases h; simp
  | f + 1, a, c :: r, ts, h => by
    rw [mach] at h
    simp only [List.length_cons]
    split at h
    · have := mach_len f a r ts h; omega
    · split at h
      · have := mach_len f false r ts h; omega
      · split at h
        · cases h
        · cases hc : cutT (c :: r) with
          | none => rw [hc] at h; cases h
          | some x =>
            rw [hc] at h
            replace h : (mach f true x.2.2).map ((x.1, x.2.1) :: ·) = some ts := h
            have hl := cutT_lt _ _ hc
            simp only [List.length_cons] at hl
            cases hm : mach f true x.2.2 with
            | none => rw [hm] at h; cases h
            | some t2 =>
              rw [hm] at h
              cases h
              have := mach_len f true x.2.2 t2 hm
              simp only [List.length_cons]
              omega
theorem wview {w : World} {v : Value} {ts : List (Bool × List UInt8)} (h : viewV w v (wcells ts)) :
    ∃ ao cap, v = .slice ao ts.length cap ∧ ∀ i (hi : i < ts.length), ∃ b, ao = some ⟨b, 0, none⟩ ∧ w.cell? ⟨b, i, none⟩ = some (.bool ts[i].1) := by
  obtain ⟨ao, cap, hv, hc⟩ := h
  have hl : (wcells ts).length = ts.length := by simp [wcells]
  rw [hl] at hv hc
  refine ⟨ao, cap, hv, fun i hi => ?_⟩
  obtain ⟨b, hb, hc'⟩ := hc i hi
  refine ⟨b, hb, hc'.trans ?_⟩
  unfold wcells
  rw [List.getElem?_map, List.getElem?_eq_getElem hi]; rfl
theorem oview {w : World} {v : Value} {ts : List (Bool × List UInt8)} (h : viewV w v (ocells ts)) :
    ∃ ao cap, v = .slice ao ts.length cap ∧ ∀ i (hi : i < ts.length), ∃ b, ao = some ⟨b, 0, none⟩ ∧ w.cell? ⟨b, i, none⟩ = some (.string ⟨ts[i].2.toArray⟩) := by
  obtain ⟨ao, cap, hv, hc⟩ := h
  have hl : (ocells ts).length = ts.length := by simp [ocells]
  rw [hl] at hv hc
  refine ⟨ao, cap, hv, fun i hi => ?_⟩
  obtain ⟨b, hb, hc'⟩ := hc i hi
  refine ⟨b, hb, hc'.trans ?_⟩
  unfold ocells
  rw [List.getElem?_map, List.getElem?_eq_getElem hi]; rfl

set_option maxRecDepth 20000 in
set_option maxHeartbeats 2000000 in
theorem law_star (s : ByteArray) (w : World) (hs : s.size ≤ 1048576)
    (c6 : ∀ w, Calls Tryd.prog 6 #[.string s] w fun e w' => Below w.heap.size w w' ∧ e = .returned (.tuple #[.bool false, .bool true, .slice none 0 0, .slice none 0 0, .bool true]))
    (c7 : ∀ w, Calls Tryd.prog 7 #[.string s] w fun e w' => Below w.heap.size w w' ∧ e = .returned (.tuple #[.bool true, .slice none 0 0, .slice none 0 0, .bool true])) :
    Calls Tryd.prog 3 #[.string s] w fun e w' => e = .returned (.bool true) ∧ Below w.heap.size w w' := by
  go_enter Tryd.func3, Tryd.ntmps3
  go_wp2_with (first | (go_at_call 6; refine (c6 _).mono ?_; rintro e w1 ⟨hb1, rfl⟩) | (go_at_call 7; refine (c7 _).mono ?_; rintro e w2 ⟨hb2, rfl⟩) | (go_at_call 5; go_in))
  have HB := hid (hb1.trans (hb2.mono hb1.size))
  clear hb1 hb2 c6 c7
  go_loop [12] (fun i => i = .int .i64 0) (fun _ => 0)
  case atStart => rfl
  case round =>
    subst hrel
    go_wp2
    go_ret
    exact ⟨rfl, HB.out⟩

set_option maxRecDepth 20000 in
set_option maxHeartbeats 2000000 in
theorem law_none (s : ByteArray) (w : World) (hs : s.size ≤ 1048576)
    (c6 : ∀ w, Calls Tryd.prog 6 #[.string s] w fun e w' => Below w.heap.size w w' ∧ e = .returned (.tuple #[.bool true, .bool false, .slice none 0 0, .slice none 0 0, .bool false]))
    (c7 : ∀ w, Calls Tryd.prog 7 #[.string s] w fun e w' => Below w.heap.size w w' ∧ e = .returned (.tuple #[.bool false, .slice none 0 0, .slice none 0 0, .bool false])) :
    Calls Tryd.prog 3 #[.string s] w fun e w' => e = .returned (.bool true) ∧ Below w.heap.size w w' := by
  go_enter Tryd.func3, Tryd.ntmps3
  go_wp2_with (first | (go_at_call 6; refine (c6 _).mono ?_; rintro e w1 ⟨hb1, rfl⟩) | (go_at_call 7; refine (c7 _).mono ?_; rintro e w2 ⟨hb2, rfl⟩) | (go_at_call 5; go_in))
  go_ret
  exact ⟨rfl, hb1.trans (hb2.mono hb1.size)⟩

set_option maxRecDepth 20000 in
set_option maxHeartbeats 2000000 in
theorem law_some (s : ByteArray) (w : World) (hs : s.size ≤ 1048576) (ts : List (Bool × List UInt8)) (hlen : ts.length ≤ 1048576)
    (c6 : ∀ w, Calls Tryd.prog 6 #[.string s] w fun e w' => Below w.heap.size w w' ∧ ∃ vw vo, e = .returned (.tuple #[.bool false, .bool false, vw, vo, .bool true]) ∧ viewV w' vw (wcells ts) ∧ viewV w' vo (ocells ts))
    (c7 : ∀ w, Calls Tryd.prog 7 #[.string s] w fun e w' => Below w.heap.size w w' ∧ ∃ vw vo, e = .returned (.tuple #[.bool false, vw, vo, .bool true]) ∧ viewV w' vw (wcells ts) ∧ viewV w' vo (ocells ts)) :
    Calls Tryd.prog 3 #[.string s] w fun e w' => e = .returned (.bool true) ∧ Below w.heap.size w w' := by
  go_enter Tryd.func3, Tryd.ntmps3
  go_wp2_with (go_at_call 5; go_in)
  refine (c6 _).mono ?_
  clear c6
  rintro e w1 ⟨hb1, v1, v2, rfl, hv1, hv2⟩
  go_wp2_with fail
  refine (c7 _).mono ?_
  clear c7
  rintro e w2 ⟨hb2, v3, v4, rfl, hv3, hv4⟩
  obtain ⟨a1, k1, rfl, h1⟩ := wview (hv1.below hb2)
  obtain ⟨a2, k2, rfl, h2⟩ := oview (hv2.below hb2)
  obtain ⟨a3, k3, rfl, h3⟩ := wview hv3
  obtain ⟨a4, k4, rfl, h4⟩ := oview hv4
  have H1 := hid h1
  have H2 := hid h2
  have H3 := hid h3
  have H4 := hid h4
  have HB := hid (hb1.trans (hb2.mono hb1.size))
  clear hb1 hb2 hv1 hv2 hv3 hv4 h1 h2 h3 h4
  go_wp2_with fail
  go_loopw [12] (fun i wr => ∃ (k n : Nat), k ≤ ts.length ∧ i = .int .i64 k ∧ wr = w2.drewN n) (fun i _ => ts.length - (intOf i).toNat)
  case atStart => exact ⟨0, 0, Nat.zero_le _, rfl, rfl⟩
  case round =>
    obtain ⟨k, n, hk, rfl, rfl⟩ := hrel
    by_cases hlt : k < ts.length
    · obtain ⟨b1, rfl, g1⟩ := H1.out k hlt
      obtain ⟨b2, rfl, g2⟩ := H2.out k hlt
      obtain ⟨b3, rfl, g3⟩ := H3.out k hlt
      obtain ⟨b4, rfl, g4⟩ := H4.out k hlt
      obtain ⟨bw, hbw⟩ : ∃ bw, ts[k].1 = bw := ⟨_, rfl⟩
      obtain ⟨bo, hbo⟩ : ∃ bo : ByteArray, ⟨ts[k].2.toArray⟩ = bo := ⟨_, rfl⟩
      rw [hbw] at g1 g3
      rw [hbo] at g2 g4
      clear hbw hbo
      go_wp2
      go_quiet (fail)
      go_wp2
      go_roundw
      case rel => exact ⟨k + 1, _, by omega, by go_num, rfl⟩
      case measure => simp [intOf]; omega
    · go_wp2
      go_ret
      exact ⟨rfl, below_drewN HB.out n⟩

theorem law_any (s : ByteArray) (w : World) (hs : s.size ≤ maxLen) :
    Calls Tryd.prog 3 #[.string s] w fun e w' => e = .returned (.bool true) ∧ Below w.heap.size w w' := by
  unfold maxLen at hs
  by_cases hb : s.size ≤ 1048576
  · have c6 := fun w => zz_any s w hb
    have c7 := fun w => modelParse_any s w hb
    by_cases hst : star s.data.toList = true
    · refine law_star s w hb (fun w => (c6 w).mono fun e w' h => ?_) (fun w => (c7 w).mono fun e w' h => ?_)
      · obtain ⟨h0, ⟨_, h1⟩ | ⟨h1, _⟩ | ⟨h1, _⟩⟩ := h
        · exact ⟨h0, h1⟩
        · rw [hst] at h1; cases h1
        · rw [hst] at h1; cases h1
      · obtain ⟨h0, ⟨_, h1⟩ | ⟨h1, _⟩ | ⟨h1, _⟩⟩ := h
        · exact ⟨h0, h1⟩
        · rw [hst] at h1; cases h1
        · rw [hst] at h1; cases h1
    · cases hM : M false s.data.toList with
      | none =>
        refine law_none s w hb (fun w => (c6 w).mono fun e w' h => ?_) (fun w => (c7 w).mono fun e w' h => ?_)
        · obtain ⟨h0, ⟨h1, _⟩ | ⟨_, _, h1⟩ | ⟨_, ts, _, _, h1, _⟩⟩ := h
          · exact absurd h1 hst
          · exact ⟨h0, h1⟩
          · rw [hM] at h1; cases h1
        · obtain ⟨h0, ⟨h1, _⟩ | ⟨_, _, h1⟩ | ⟨_, ts, _, _, h1, _⟩⟩ := h
          · exact absurd h1 hst
          · exact ⟨h0, h1⟩
          · rw [hM] at h1; cases h1
      | some ts =>
        by_cases hl : ts.length ≤ 1048576
        · refine law_some s w hb ts hl (fun w => (c6 w).mono fun e w' h => ?_) (fun w => (c7 w).mono fun e w' h => ?_)
          · obtain ⟨h0, ⟨h1, _⟩ | ⟨_, h1, _⟩ | ⟨_, ts', vw, vo, h1, h2, _, h3, h4⟩⟩ := h
            · exact absurd h1 hst
            · rw [hM] at h1; cases h1
            · rw [hM] at h1; cases h1; exact ⟨h0, vw, vo, h2, h3, h4⟩
          · obtain ⟨h0, ⟨h1, _⟩ | ⟨_, h1, _⟩ | ⟨_, ts', vw, vo, h1, h2, _, h3, h4⟩⟩ := h
            · exact absurd h1 hst
            · rw [hM] at h1; cases h1
            · rw [hM] at h1; cases h1; exact ⟨h0, vw, vo, h2, h3, h4⟩
        · have h1 := mach_len _ _ _ _ hM
          have h2 := size_eq_data s
          omega
  · go_enter Tryd.func3, Tryd.ntmps3
    go_wp2
    go_ret
    exact ⟨rfl, Below.refl _ _⟩
end Go.Proofs.Qxb6600694aDoor
