import Derived.Test.Qxb6600694aDoorWalkC
import Derived.Deep.CutBlock
import Derived.Deep.DeepCutAuto
namespace Go.Proofs.Qxb6600694aDoor
open Go.RowKit Go.Shelf

theorem blank_yes {s : ByteArray} {k : Nat} (hk : k < s.size) (h : blI (s[k].toNat : Int) = true) : bl s[k] = true := by rw [← blI_bl]; exact h
theorem blank_no {s : ByteArray} {k : Nat} (hk : k < s.size) (h : blI (s[k].toNat : Int) = false) : bl s[k] = false := by rw [← blI_bl]; exact h
theorem take_blank {s : ByteArray} {k : Nat} (hk : k < s.size) (ha : (s.data.toList.take k).all bl = true) (h : bl s[k] = true) : (s.data.toList.take (k + 1)).all bl = true := by
  rw [take_snoc s k hk, List.all_append, ha]; simp [h]
theorem drop_blank {s : ByteArray} {k : Nat} (h0 : 1 ≤ k) (hk : k ≤ s.size) (ha : (s.data.toList.drop k).all bl = true) (h : bl (s[k - 1]'(by omega)) = true) : (s.data.toList.drop (k - 1)).all bl = true := by
  rw [drop_cons s (k - 1) (by omega), show k - 1 + 1 = k by omega, List.all_cons, ha, h]; rfl

theorem eq44 {x : UInt8} (h : ((x.toNat : Int) == 44) = true) : (x == 44) = true := by
  have h2 : (x.toNat : Int) = 44 := by simpa using h
  exact beq_iff_eq.2 (UInt8.toNat_inj.1 (by show x.toNat = 44; omega))
theorem ne44 {x : UInt8} (h : ((x.toNat : Int) == 44) = false) : (x == 44) = false := by
  have h2 : ¬ (x.toNat : Int) = 44 := by simpa using h
  simp only [beq_eq_false_iff_ne, ne_eq]
  intro e; subst e; exact h2 rfl
theorem owns_below {w w' : World} {B e n : Nat} {v : Value} {xs : List Value} (h : w.ownsRow B e 1 v n xs) (hb : Below w.heap.size w w') : w'.ownsRow B e 1 v n xs := by
  refine ⟨h.1, ?_⟩
  rcases h.2 with h0 | ⟨g, cap, cur, hv, hB, hg, rest⟩
  · exact .inl h0
  · exact .inr ⟨g, cap, cur, hv, hB, (hb.block g (Array.getElem?_eq_some_iff.1 hg).1).trans hg, rest⟩

theorem size_eq_data (s : ByteArray) : s.data.toList.length = s.size := by simp
theorem owns_wsnoc {w : World} {B : Nat} {v : Value} {acc : List (Bool × List UInt8)} {wk : Bool} {o : List UInt8} (h : w.ownsRow B 4 1 v (acc.length + 1) (wcells acc ++ [.bool wk])) : w.ownsRow B 4 1 v (acc ++ [(wk, o)]).length (wcells (acc ++ [(wk, o)])) := by
  simpa [wcells] using h
theorem owns_osnoc {w : World} {B : Nat} {v : Value} {acc : List (Bool × List UInt8)} {wk : Bool} {o : List UInt8} {ob : ByteArray} (h : w.ownsRow B 9 1 v (acc.length + 1) (ocells acc ++ [.string ob])) (e : ⟨o.toArray⟩ = ob) : w.ownsRow B 9 1 v (acc ++ [(wk, o)]).length (ocells (acc ++ [(wk, o)])) := by
  subst e
  simpa [ocells] using h
theorem info4 : (Tryd.prog.info? 4).map (fun i => (i.zero, i.size, i.bytes)) = some (some (.bool false), 1, 1) := by kernel_rfl
theorem info9 : (Tryd.prog.info? 9).map (fun i => (i.zero, i.size, i.bytes)) = some (some (.string ByteArray.empty), 1, 16) := by kernel_rfl

set_option maxRecDepth 20000 in
set_option maxHeartbeats 2000000 in
theorem modelParse_any (s : ByteArray) (w : World) (hs : s.size ≤ 1048576) :
    Calls Tryd.prog 7 #[.string s] w fun e w' => Below w.heap.size w w' ∧
      ((star s.data.toList = true ∧ e = .returned (.tuple #[.bool true, .slice none 0 0, .slice none 0 0, .bool true])) ∨
       (star s.data.toList = false ∧ M false s.data.toList = none ∧ e = .returned (.tuple #[.bool false, .slice none 0 0, .slice none 0 0, .bool false])) ∨
       (star s.data.toList = false ∧ ∃ ts vw vo, M false s.data.toList = some ts ∧ e = .returned (.tuple #[.bool false, vw, vo, .bool true]) ∧ ts.length ≤ 1048576 ∧ viewV w' vw (wcells ts) ∧ viewV w' vo (ocells ts))) := by
  go_enter Tryd.func7, Tryd.ntmps7
  go_upto_block 0 with fail
  go_cut [6] (fun lo wc => ∃ k : Nat, lo = .int .i64 k ∧ k ≤ s.size ∧ (s.data.toList.take k).all bl = true ∧ (∀ h : k < s.size, bl s[k] = false) ∧ wc = w)
  case first =>
    go_wp2_with fail
    go_loop [6] (fun i => ∃ k : Nat, k ≤ s.size ∧ i = .int .i64 k ∧ (s.data.toList.take k).all bl = true) (fun i => s.size - (intOf i).toNat)
    case atStart => exact ⟨0, Nat.zero_le _, rfl, rfl⟩
    case round =>
      obtain ⟨k, hk, rfl, ha⟩ := hrel
      have HA := hid ha
      clear ha
      by_cases hlt : k < s.size
      · go_wp2_with (go_at_call 14; refine (space_any _ _).mono ?_; rintro e w' ⟨rfl, rfl⟩)
        · go_round
          case rel => exact ⟨k + 1, by omega, by go_num, take_blank hlt HA.out (blank_yes hlt ‹_›)⟩
          case measure => simp [intOf]; omega
        · have hb : blI (s[k].toNat : Int) = false := by assumption
          go_meet
          case rel => exact ⟨k, rfl, hk, HA.out, fun _ => blank_no hlt hb, rfl⟩
      · go_wp2
        go_meet
        case rel => exact ⟨k, rfl, hk, HA.out, fun h => absurd h hlt, rfl⟩
  case rest =>
    obtain ⟨k, rfl, hk, ha, hf, hwc⟩ := hcut
    subst hwc
    have HA := hid ha
    have HF := hid hf
    clear ha hf
    go_upto_block 2 with fail
    go_cut [7] (fun hi w1 => ∃ h : Nat, hi = .int .i64 h ∧ k ≤ h ∧ h ≤ s.size ∧ (s.data.toList.drop h).all bl = true ∧ (∀ hh : k < h ∧ h ≤ s.size, bl (s[h - 1]'(by omega)) = false) ∧ w1 = wc)
    case first =>
      go_wp2_with fail
      go_loop [7] (fun i => ∃ h : Nat, k ≤ h ∧ h ≤ s.size ∧ i = .int .i64 h ∧ (s.data.toList.drop h).all bl = true) (fun i => (intOf i).toNat)
      case atStart => exact ⟨s.size, hk, Nat.le_refl _, rfl, by rw [List.drop_eq_nil_of_le (by simp)]; rfl⟩
      case round =>
        obtain ⟨h, hkh, hhs, rfl, hb⟩ := hrel
        have HB := hid hb
        clear hb
        by_cases hlt : k < h
        · have e1 : ((h : Int) - 1).toNat = h - 1 := by omega
          go_wp2_with (go_at_call 14; refine (space_any _ _).mono ?_; rintro e w' ⟨rfl, rfl⟩)
          · have hbl : blI ((s[h - 1]'(by omega)).toNat : Int) = true := by assumption
            go_round
            case rel => exact ⟨h - 1, by omega, by omega, by go_num, drop_blank (by omega) hhs HB.out (blank_yes (by omega) hbl)⟩
            case measure => simp [intOf]; omega
          · have hbl : blI ((s[h - 1]'(by omega)).toNat : Int) = false := by assumption
            go_meet
            case rel => exact ⟨h, rfl, hkh, hhs, HB.out, fun _ => blank_no (by omega) hbl, rfl⟩
        · go_wp2
          go_meet
          case rel => exact ⟨h, rfl, hkh, hhs, HB.out, fun hh => absurd hh.1 hlt, rfl⟩
    case rest =>
      obtain ⟨h, rfl, hkh, hhs, hb, hl, rfl⟩ := hcut
      have ht := star_mid hkh hhs HA.out hb HF.out (fun hh => hl ⟨hh, hhs⟩)
      have HT := hid ht
      clear hb hl ht
      go_upto_region 7 with fail
      go_cut [52] (fun b w1 => b = .bool (star s.data.toList) ∧ w1 = wc)
      case first =>
        by_cases h1 : h - k = 1
        · have hg : ((h : Int) - (k : Int) == 1) = true := beq_iff_eq.2 (by omega)
          have hks : k < s.size := by omega
          cases hc : ((s[k].toNat : Int) == 42) with
          | true =>
            have HS := hid (star_yes hks HT.out h1 hc)
            go_wp2
            go_meet
            case rel => exact ⟨by rw [HS.out], rfl⟩
          | false =>
            have HS := hid (star_no hhs HT.out (.inr ⟨hks, hc⟩))
            go_wp2
            go_meet
            case rel => exact ⟨by rw [HS.out], rfl⟩
        · have hg : ((h : Int) - (k : Int) == 1) = false := beq_eq_false_iff_ne.2 (by omega)
          have HS := hid (star_no hhs HT.out (.inl h1))
          go_wp2
          go_meet
          case rel => exact ⟨by rw [HS.out], rfl⟩
      case rest =>
        obtain ⟨rfl, rfl⟩ := hcut
        cases hst : star s.data.toList with
        | true =>
          have HS := hid hst
          clear hst
          go_wp2
          exact bodyPost_ret (v := .tuple #[.bool true, .slice none 0 0, .slice none 0 0, .bool true]) (by simp [results, Tryd.results7, go_sem]) rfl ⟨Below.refl _ _, .inl ⟨HS.out, rfl⟩⟩
        | false =>
          have HS := hid hst
          clear hst
          obtain ⟨i4, hi4, hy0, hy1, hy2⟩ := info_parts info4
          obtain ⟨i9, hi9, hz0, hz1, hz2⟩ := info_parts info9
          go_wp2_with fail
          go_loopw [8, 9, 10, 11] (fun vw0 vo0 a0 i wr => ∃ (vw vo : Value) (a : Bool) (j : Nat) (acc : List (Bool × List UInt8)), vw = vw0 ∧ vo = vo0 ∧ a0 = .bool a ∧ i = .int .i64 j ∧ j ≤ s.size ∧ acc.length ≤ j ∧
              wr.ownsRow wc.heap.size 4 1 vw acc.length (wcells acc) ∧ wr.ownsRow wc.heap.size 9 1 vo acc.length (ocells acc) ∧ Below wc.heap.size wc wr ∧ M false s.data.toList = R acc (M a (s.data.toList.drop j))) (fun _ _ _ i _ => s.size - (intOf i).toNat)
          case atStart => exact ⟨_, _, false, 0, [], rfl, rfl, rfl, rfl, Nat.zero_le _, Nat.zero_le _, World.ownsRow_nil _ _ _ _, World.ownsRow_nil _ _ _ _, Below.refl _ _, (R_start _).symm⟩
          case round =>
            obtain ⟨vw, vo, a, j, acc, rfl, rfl, rfl, rfl, hj, hacc, how, hoo, hbel, hM⟩ := hrel
            have HM := hid hM
            have HOw := hid how
            have HOo := hid hoo
            have HBl := hid hbel
            clear hM how hoo hbel
            by_cases hjs : j < s.size
            · have hd := drop_cons s j hjs
              cases hb : blI (s[j].toNat : Int) with
              | true =>
                have HN : Hid (M false s.data.toList = R acc (M a (s.data.toList.drop (j + 1)))) := hid (by rw [HM.out, hd, M_blank a (blank_yes hjs hb)])
                clear hd HM
                go_wp2_with (go_at_call 14; refine (space_any _ _).mono ?_; rintro e w' ⟨rfl, rfl⟩)
                go_roundw
                case rel => exact ⟨vw, vo, a, j + 1, acc, rfl, rfl, rfl, by go_num, by omega, by omega, HOw.out, HOo.out, HBl.out, HN.out⟩
                case measure => simp [intOf]; omega
              | false =>
                have hbl := blank_no hjs hb
                cases hc : ((s[j].toNat : Int) == 44) with
                | true =>
                  have HN : Hid (M false s.data.toList = R acc (M false (s.data.toList.drop (j + 1)))) := hid (by rw [HM.out, hd, M_comma a hbl (eq44 hc)])
                  clear hd HM hbl
                  go_wp2_with (go_at_call 14; refine (space_any _ _).mono ?_; rintro e w' ⟨rfl, rfl⟩)
                  go_roundw
                  case rel => exact ⟨vw, vo, false, j + 1, acc, rfl, rfl, rfl, by go_num, by omega, by omega, HOw.out, HOo.out, HBl.out, HN.out⟩
                  case measure => simp [intOf]; omega
                | false =>
                  have hcn := ne44 hc
                  cases a with
                  | true =>
                    have HN : Hid (M false s.data.toList = none) := by rw [HM.out, hd, M_refuse hbl hcn]; rfl
                    clear hd HM hbl hcn
                    go_wp2_with (go_at_call 14; refine (space_any _ _).mono ?_; rintro e w' ⟨rfl, rfl⟩)
                    exact bodyPost_ret (v := .tuple #[.bool false, .slice none 0 0, .slice none 0 0, .bool false]) (by simp [results, Tryd.results7, go_sem]) rfl ⟨HBl.out, .inr (.inl ⟨HS.out, HN.out, rfl⟩)⟩
                  | false =>
                    have c15 : ∀ w, Calls Tryd.prog 15 #[.string (s.extract j s.size)] w _ := fun w => modelCut_any (s.extract j s.size) w (by simp; omega)
                    simp only [Lib.extract_to_end] at c15
                    cases hq : cutQ (if isW (s.data.toList.drop j) then (s.data.toList.drop j).drop 2 else s.data.toList.drop j) with
                    | none =>
                      have HN : Hid (M false s.data.toList = none) := by
                        rw [HM.out, hd, M_bad hbl hcn (by rw [← hd]; unfold cutT; rw [hq]; rfl)]; rfl
                      rw [hq] at c15
                      simp only [modRes] at c15
                      clear hd HM hbl hcn hq
                      go_wp2_with (first | (go_at_call 14; refine (space_any _ _).mono ?_; rintro e w' ⟨rfl, rfl⟩) | (go_at_call 15; refine (c15 _).mono ?_; rintro e w1 ⟨rfl, hb1⟩))
                      exact bodyPost_ret (v := .tuple #[.bool false, .slice none 0 0, .slice none 0 0, .bool false]) (by simp [results, Tryd.results7, go_sem]) rfl ⟨HBl.out.trans (hb1.mono HBl.out.size), .inr (.inl ⟨HS.out, HN.out, rfl⟩)⟩
                    | some x =>
                      have hsuf := cutT_suffix hq
                      have hlt := cutT_lt (s.data.toList.drop j) (isW (s.data.toList.drop j), x) (by unfold cutT; rw [hq]; rfl)
                      have HN : Hid (M false s.data.toList = R (acc ++ [(isW (s.data.toList.drop j), x.1)]) (M true x.2)) := hid (by
                        rw [HM.out, hd, M_tag (x := (isW (s[j] :: s.data.toList.drop (j + 1)), x)) hbl hcn (by rw [← hd]; unfold cutT; rw [hq]; rfl), R_more])
                      rw [hq] at c15
                      simp only [modRes] at c15
                      obtain ⟨ob, hob⟩ : ∃ ob : ByteArray, ⟨x.1.toArray⟩ = ob := ⟨_, rfl⟩
                      obtain ⟨rs, hrs⟩ : ∃ rs : ByteArray, ⟨x.2.toArray⟩ = rs := ⟨_, rfl⟩
                      obtain ⟨wk, hwk⟩ : ∃ wk : Bool, isW (s.data.toList.drop j) = wk := ⟨_, rfl⟩
                      have hrsz : rs.size = x.2.length := by rw [← hrs]; simp [ByteArray.size]
                      have hsz : rs.size + j < s.size := by
                        rw [hrsz]
                        rw [List.length_drop] at hlt
                        have : s.data.toList.length = s.size := by simp
                        simp only at hlt
                        omega
                      have hdr : s.data.toList.drop (s.size - rs.size) = x.2 := by
                        rw [hrsz, ← size_eq_data s]
                        exact suffix_drop (hsuf.trans (List.drop_suffix _ _))
                      rw [hwk] at c15 HN
                      rw [hob, hrs] at c15
                      rw [← hdr] at HN
                      have HX := hid hob
                      clear hd HM hbl hcn hq hsuf hlt hob hrs hwk hrsz hdr
                      go_wp2_with (go_at_call 14; refine (space_any _ _).mono ?_; rintro e w' ⟨rfl, rfl⟩)
                      refine (c15 _).mono ?_
                      rintro e w1 ⟨rfl, hb1⟩
                      have how1 := owns_below HOw.out hb1
                      have HOo1 := hid (owns_below HOo.out hb1)
                      have HB1 := hid (HBl.out.trans (hb1.mono HBl.out.size))
                      have hsz1 := HB1.out.size
                      clear HOw HOo HBl hb1 c15
                      go_wp2_with (at_builtin; refine wpList_append_own _ rfl (.tmp 80) (.tmp 82) 23 rfl wc.heap.size 4 i4 (.bool false) 1 1 Tryd.underlying23 hi4 hy0 hy1 hy2 rfl (by decide) _ _ _ rfl (how1.alloc _) ⟨w1.heap.size, 0, none⟩ 1 1 [.bool wk] rfl rfl ?c1 ?c2 ?c3 ?c4 ?c5 ?_)
                      case c1 => exact cell_one_new _ _ _
                      case c2 => intro u hu; simp at hu; subst hu; rfl
                      case c3 => unfold maxLen; omega
                      case c4 => omega
                      case c5 => simp; omega
                      intro vw2 w2 how2 hgrow2 hnn2
                      have HOw2 := hid (owns_wsnoc (o := x.1) how2)
                      have hoo2 := kept_other (how1.alloc _) (HOo1.out.alloc _) hgrow2 (by decide)
                      have HB2 := hid ((HB1.out.alloc hsz1 _).grown hgrow2 (by simp; omega) (fun k hk => (how1.lt k hk).1))
                      have hsz2 := HB2.out.size
                      clear how2 hgrow2 hnn2 how1 HOo1 HB1
                      go_wp2_with (at_builtin; refine wpList_append_own _ rfl (.tmp 84) (.tmp 86) 24 rfl wc.heap.size 9 i9 (.string ByteArray.empty) 1 16 Tryd.underlying24 hi9 hz0 hz1 hz2 rfl (by decide) _ _ _ rfl (hoo2.alloc _) ⟨w2.heap.size, 0, none⟩ 1 1 [.string ob] rfl rfl ?d1 ?d2 ?d3 ?d4 ?d5 ?_)
                      case d1 => exact cell_one_new _ _ _
                      case d2 => intro u hu; simp at hu; subst hu; rfl
                      case d3 => unfold maxLen; omega
                      case d4 => omega
                      case d5 => simp; omega
                      intro vo3 w3 hoo3 hgrow3 hnn3
                      have HOo3 := hid (owns_osnoc (wk := wk) hoo3 HX.out)
                      have HOw3 := hid (kept_other (hoo2.alloc _) (HOw2.out.alloc _) hgrow3 (by decide))
                      have HB3 := hid ((HB2.out.alloc hsz2 _).grown hgrow3 (by simp; omega) (fun k hk => (hoo2.lt k hk).1))
                      clear hoo3 hgrow3 hnn3 hoo2 HOw2 HB2
                      go_wp2
                      go_roundw
                      case rel => exact ⟨vw2, vo3, true, s.size - rs.size, acc ++ [(wk, x.1)], rfl, rfl, rfl, by go_num, by omega, by simp; omega, HOw3.out, HOo3.out, HB3.out, HN.out⟩
                      case measure => simp [intOf]; omega
            · have HN : Hid (M false s.data.toList = some acc) := hid (by
                rw [HM.out, List.drop_eq_nil_of_le (by simp; omega), M_nil]; simp [R])
              go_wp2
              exact bodyPost_ret (v := .tuple #[.bool false, vw, vo, .bool true]) (by simp [results, Tryd.results7, go_sem]) rfl ⟨HBl.out, .inr (.inr ⟨HS.out, acc, vw, vo, HN.out, rfl, by omega, viewV_of_owns HOw.out, viewV_of_owns HOo.out⟩)⟩
end Go.Proofs.Qxb6600694aDoor
