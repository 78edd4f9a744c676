import Derived.Test.Qxb6600405aDoorWalkF
namespace Go.Proofs.Qxb6600405aDoor
open Go.RowKit Go.Shelf

theorem neqNil (w : World) (a : Option Addr) (n c : Nat) : (binOp .neq 23 (.slice a n c) (.slice none 0 0)).run Tryd.prog w = .ok (.bool (!a.isNone)) w := run_neq_slice_nil_any (P := Tryd.prog) w 23 9 a n c 0 0 Tryd.underlying23

theorem firstBad_none {ps : List ByteArray} (h : firstBad ps = none) : ∀ p ∈ ps, vB p = true := by
  intro p hp
  have := List.find?_eq_none.1 h p hp
  simpa using this

theorem got_any (ps : List ByteArray) (hall : firstBad ps = none) (hlen : ps.length + tot ps ≤ 1048576) (w : World) :
    Calls Tryd.prog 6 #[.string ⟨(joined ps).toArray⟩] w (goodP w ps) := by
  have hv := firstBad_none hall
  have hd : (⟨(joined ps).toArray⟩ : ByteArray).data.toList = joined ps := by simp
  have hz : (⟨(joined ps).toArray⟩ : ByteArray).size = (joined ps).length := by simp [ByteArray.size]
  have hjl := joined_len ps
  by_cases h0 : ps = []
  · subst h0
    exact list_empty _ w (by rw [Lib.toList_data]; rfl)
  · have hcut : cutAt 44 (joined ps) = ps.map (·.data.toList) := by
      refine cutAt_join 44 _ (by simpa using h0) ?_
      intro p hp
      obtain ⟨q, hq, rfl⟩ := List.mem_map.1 hp
      exact vL_no_comma (hv q hq)
    have hps : pieces ⟨(joined ps).toArray⟩ = ps := map_inj (by rw [pieces_cut, hd, hcut])
    have hne : joined ps ≠ [] := by
      intro e
      rw [e] at hcut
      match ps, h0, hcut with
      | p :: r, _, hcut =>
        have h1 : p.data.toList = [] := by
          simp only [cutAt, List.map_cons, List.cons.injEq] at hcut
          exact hcut.1.symm
        have := hv p (by simp)
        unfold vB vL at this
        rw [h1] at this
        simp at this
    have c6 := list_some ⟨(joined ps).toArray⟩ w (by rw [Lib.toList_data, hd]; cases h : joined ps with | nil => exact absurd h hne | cons a t => rfl) (pieces ⟨(joined ps).toArray⟩) (by rw [hps]; omega) (split_at _ w (by rw [hz]; omega))
    rw [hps] at c6
    refine c6.mono fun e w' h => ?_
    obtain ⟨hb', ⟨_, v, h1, h2⟩ | ⟨p, h1, _⟩⟩ := h
    · exact ⟨v, h1, h2, hb'⟩
    · rw [hall] at h1; cases h1

theorem viewS.below {w w' : World} {ao : Option Addr} {ps : List ByteArray} (h : viewS w ao ps) (hb : Below w.heap.size w w') : viewS w' ao ps := fun i hi => by
  obtain ⟨b, off, h1, h2⟩ := h i hi
  exact ⟨b, off, h1, (hb.cell (World.block_lt_of_cell? _ _ h2)).trans h2⟩

theorem view_of_owns {w : World} {base g n : Nat} {ps : List ByteArray} {xs : List Value} (h : w.ownsRow base 9 1 (.slice (some ⟨g, 0, none⟩) n n) n xs) (hn : n = ps.length) (hx : xs = ps.map Value.string) : viewS w (some ⟨g, 0, none⟩) ps := by
  subst hn
  subst hx
  intro i hi
  refine ⟨g, 0, rfl, ?_⟩
  rw [Nat.zero_add, h.cellAt i (by omega), List.getElem?_map, List.getD_eq_getElem?_getD, List.getElem?_eq_getElem hi]
  rfl

theorem copy_set {ps : List ByteArray} {k : Nat} {p : ByteArray} (hk : k < ps.length) (hp : ps.getD k ByteArray.empty = p) : (Lib.cellsOf (ps.take k) ps.length).toList.set k (.string p) = (Lib.cellsOf (ps.take (k + 1)) ps.length).toList := by
  rw [getD_at hk] at hp
  have hl : (ps.take k).length = k := by simp; omega
  have := Lib.cellsOf_set (done := ps.take k) (N := ps.length) (by omega) p
  rw [hl] at this
  rw [List.take_succ_eq_append_getElem hk, hp, ← this]
  simp
theorem copy_next {ps : List ByteArray} {k : Nat} (hk : k < ps.length) : (Lib.cellsOf (ps.take k) ps.length).toList[k]? = some (.string ByteArray.empty) := by
  have hl : (ps.take k).length = k := by simp; omega
  have := Lib.cellsOf_next (done := ps.take k) (N := ps.length) (by omega)
  rw [hl] at this
  simpa using this
theorem copy_done {ps : List ByteArray} {k : Nat} (hk : ps.length ≤ k) : (Lib.cellsOf (ps.take k) ps.length).toList = ps.map Value.string := by
  rw [List.take_of_length_le hk, Lib.cellsOf_full]

set_option maxHeartbeats 2000000 in
theorem law4_any (ps : List ByteArray) (ao : Option Addr) (cap : Nat) (w : World) (hv : viewS w ao ps) (hlen : ps.length ≤ 9223372036854775807) (hp : ∀ p ∈ ps, p.size ≤ 9223372036854775807) :
    Calls Tryd.prog 4 #[.slice ao ps.length cap] w fun e w' => e = .returned (.bool true) ∧ Below w.heap.size w w' := by
  have c9 := bytes_any ps ao cap w hv hlen hp
  obtain ⟨i0, hi, hz0, hz1, hz2⟩ := info_parts info9
  have HV := hid hv
  have HP := hid hp
  clear hv hp
  go_enter Tryd.func4, Tryd.ntmps4
  go_wp2_with fail
  refine c9.mono ?_
  clear c9
  rintro e w' ⟨rfl, rfl | ⟨rfl, hsum⟩⟩
  · go_wp2
    go_ret
    exact ⟨rfl, Below.refl _ _⟩
  by_cases h65 : ps.length ≤ 65536
  · have hd17 : decide ((65536 : Int) < (ps.length : Int)) = false := decide_eq_false (by omega)
    go_wp2_with fail
    go_loop [3, 4] (fun t i => ∃ (k m : Nat), k ≤ ps.length ∧ i = .int .i64 k ∧ t = .int .i64 m ∧ m ≤ 16 * ps.length + tot ps ∧ m = 16 * ps.length + tot (ps.take k)) (fun _ i => ps.length - (intOf i).toNat)
    case atStart => exact ⟨0, 16 * ps.length, Nat.zero_le _, rfl, by go_num, by omega, by simp [tot]⟩
    case round =>
      obtain ⟨k, m, hk, rfl, rfl, hm, hme⟩ := hrel
      have HM := hid hme
      clear hme
      by_cases hlt : k < ps.length
      · obtain ⟨b, off, rfl, hc⟩ := HV.out k hlt
        have HT := hid (tot_snoc hlt rfl)
        have htt := tot_take_le ps (k + 1)
        obtain ⟨p, hp⟩ : ∃ p, ps.getD k ByteArray.empty = p := ⟨_, rfl⟩
        rw [hp] at hc HT
        clear hp
        have hpz : p.size ≤ 1048576 := by have := HT.out; omega
        have hm2 : m + p.size ≤ 16 * ps.length + tot ps := by have := HT.out; have := HM.out; omega
        go_wp2
        go_round
        case rel => exact ⟨k + 1, m + p.size, by omega, by go_num, by go_num, hm2, by rw [HT.out, HM.out]; omega⟩
        case measure => simp [intOf]; omega
      · by_cases hmb : m ≤ 1048576
        · have hd41 : decide ((1048576 : Int) < (m : Int)) = false := decide_eq_false (by omega)
          go_wp2_with fail
          go_loop [5] (fun i => ∃ k2 : Nat, k2 ≤ ps.length ∧ i = .int .i64 k2 ∧ firstBad (ps.take k2) = none) (fun i => ps.length - (intOf i).toNat)
          case atStart => exact ⟨0, Nat.zero_le _, rfl, rfl⟩
          case round =>
            obtain ⟨k2, hk2, rfl, ha⟩ := hrel
            have HA := hid ha
            clear ha
            by_cases hlt2 : k2 < ps.length
            · obtain ⟨b, off, rfl, hc⟩ := HV.out k2 hlt2
              obtain ⟨p, hp⟩ : ∃ p, ps.getD k2 ByteArray.empty = p := ⟨_, rfl⟩
              rw [hp] at hc
              have HE := hid hp
              clear hp
              go_wp2_with (go_at_call 10; refine (valid_any _ _).mono ?_; rintro e w' ⟨rfl, rfl⟩)
              · go_ret
                exact ⟨rfl, Below.refl _ _⟩
              · have hok : (!vB p) = false := by assumption
                go_round
                case rel => exact ⟨k2 + 1, by omega, by go_num, bad_more hlt2 HE.out HA.out hok⟩
                case measure => simp [intOf]; omega
            · have HF : Hid (firstBad ps = none) := by
                have := HA.out
                rwa [List.take_of_length_le (by omega)] at this
              clear HA
              have hnn := neqNil
              have hdk2 : decide ((k2 : Int) < (ps.length : Int)) = false := decide_eq_false (by omega)
              cases ao with
              | none =>
                go_wp2_with fail
                refine (join_any ps none cap _ HV.out hsum).mono ?_
                rintro e w3 ⟨rfl, hb3⟩
                have HB3 := hid hb3
                have HW3 := hid (HV.out.below hb3)
                clear hb3
                have hn := eqNil
                go_wp2_with fail
                refine (got_any ps HF.out hsum w3).mono ?_
                rintro e w4 ⟨v4, rfl, ⟨B4, c4, rfl, h4⟩, hb4⟩
                have HB4 := hid (HB3.out.trans (hb4.mono HB3.out.size))
                have HW4 := hid (HW3.out.below hb4)
                have H4 := hid h4
                clear h4 hb4 HB3 HW3
                go_wp2_with fail
                clear hn hnn
                go_loopw [11] (fun i wr => ∃ (k4 n4 : Nat), k4 ≤ ps.length ∧ i = .int .i64 k4 ∧ wr = w4.drewN n4) (fun i _ => ps.length - (intOf i).toNat)
                case atStart => exact ⟨0, 0, Nat.zero_le _, rfl, rfl⟩
                case round =>
                  obtain ⟨k4, n4, hk4, rfl, rfl⟩ := hrel
                  by_cases hlt4 : k4 < ps.length
                  · obtain ⟨b, off, hao, hc2⟩ := HW4.out k4 hlt4
                    cases hao
                  · go_wp2
                    go_ret
                    exact ⟨rfl, below_drewN HB4.out n4⟩
              | some ad =>
                go_wp2_with (at_make; refine wpList_make_full _ rfl _ _ 23 rfl w'.heap.size 9 i0 (.string ByteArray.empty) 1 Tryd.underlying23 hi hz0 hz1 _ _ _ _ ps.length rfl rfl ?m1 ?m2 ?m3 ?m4 ?m5 ?_)
                case m1 => rfl
                case m2 => rfl
                case m3 => first | omega | (rw [hz2]; omega)
                case m4 => unfold maxLen; omega
                intro w1 hown1 hgrow1
                rw [← Lib.cellsOf_nil] at hown1
                have HO1 := hid hown1
                have HB1 := hid ((Below.refl w'.heap.size w').grown hgrow1 (Nat.le_refl _) (fun k hk => by cases hk))
                clear hown1 hgrow1
                go_wp2_with fail
                go_loopw [7] (fun i wr => ∃ k3 : Nat, k3 ≤ ps.length ∧ i = .int .i64 k3 ∧ wr.ownsRow w'.heap.size 9 1 (.slice (some ⟨w'.heap.size, 0, none⟩) ps.length ps.length) ps.length (Lib.cellsOf (ps.take k3) ps.length).toList ∧ Below w'.heap.size w' wr) (fun i _ => ps.length - (intOf i).toNat)
                case atStart => exact ⟨0, Nat.zero_le _, rfl, HO1.out, HB1.out⟩
                case round =>
                  obtain ⟨k3, hk3, rfl, ho3, hb3⟩ := hrel
                  have HO3 := hid ho3
                  have HB3 := hid hb3
                  clear ho3 hb3
                  by_cases hlt3 : k3 < ps.length
                  · obtain ⟨b, off, hao, hc0⟩ := HV.out k3 hlt3
                    cases hao
                    have hc : wr.cell? ⟨b, off + k3, none⟩ = _ := (HB3.out.cell (World.block_lt_of_cell? _ _ hc0)).trans hc0
                    have hd := (HO3.out.cellAt k3 (by omega)).trans (copy_next hlt3)
                    have hf := HO3.out.frozenAt k3
                    obtain ⟨p, hp⟩ : ∃ p, ps.getD k3 ByteArray.empty = p := ⟨_, rfl⟩
                    rw [hp] at hc
                    have HE := hid hp
                    clear hp hc0
                    go_wp2
                    go_roundw
                    case rel => exact ⟨k3 + 1, by omega, by go_num, by rw [← copy_set hlt3 HE.out]; exact (HO3.out.stored k3 _).1, HB3.out.setCell (Nat.le_refl _) _⟩
                    case measure => simp [intOf]; omega
                  · have HW2 := hid (view_of_owns HO3.out rfl (copy_done (by omega)))
                    have hdk3 : decide ((k3 : Int) < (ps.length : Int)) = false := decide_eq_false (by omega)
                    clear HO3 HO1 HB1 HV
                    go_wp2_with fail
                    refine (join_any ps _ ps.length _ HW2.out hsum).mono ?_
                    rintro e w3 ⟨rfl, hb3⟩
                    have HW3 := hid (HW2.out.below hb3)
                    replace HB3 := hid (HB3.out.trans (hb3.mono HB3.out.size))
                    clear hb3 HW2
                    have hn := eqNil
                    go_wp2_with fail
                    refine (got_any ps HF.out hsum w3).mono ?_
                    rintro e w4 ⟨v4, rfl, ⟨B4, c4, rfl, h4⟩, hb4⟩
                    have HB4 := hid (HB3.out.trans (hb4.mono HB3.out.size))
                    have HW4 := hid (HW3.out.below hb4)
                    have H4 := hid h4
                    clear h4 hb4 HB3 HW3
                    go_wp2_with fail
                    clear hn hnn
                    go_loopw [11] (fun i wr => ∃ (k4 n4 : Nat), k4 ≤ ps.length ∧ i = .int .i64 k4 ∧ wr = w4.drewN n4) (fun i _ => ps.length - (intOf i).toNat)
                    case atStart => exact ⟨0, 0, Nat.zero_le _, rfl, rfl⟩
                    case round =>
                      obtain ⟨k4, n4, hk4, rfl, rfl⟩ := hrel
                      by_cases hlt4 : k4 < ps.length
                      · have hc1 := H4.out k4 hlt4
                        obtain ⟨b, off, hao, hc2⟩ := HW4.out k4 hlt4
                        cases hao
                        obtain ⟨p, hp⟩ : ∃ p, ps.getD k4 ByteArray.empty = p := ⟨_, rfl⟩
                        rw [hp] at hc1 hc2
                        clear hp
                        try rw [Nat.zero_add] at hc2
                        go_wp2
                        go_quiet (fail)
                        go_wp2
                        go_roundw
                        case rel => exact ⟨k4 + 1, _, by omega, by go_num, rfl⟩
                        case measure => simp [intOf]; omega
                      · go_wp2
                        go_ret
                        exact ⟨rfl, below_drewN HB4.out n4⟩
        · go_wp2
          go_ret
          exact ⟨rfl, Below.refl _ _⟩
  · go_wp2
    go_ret
    exact ⟨rfl, Below.refl _ _⟩
end Go.Proofs.Qxb6600405aDoor
