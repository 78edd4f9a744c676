import Derived.Test.Qxb6600768aGreatDoorWalkD
namespace Go.Proofs.Qxb6600768aGreatDoor
open Go.RowKit Go.Shelf

/-- The first k bytes of s are p. -/
def Sc (s : ByteArray) (k : Nat) (p : List UInt8) : Prop := k ≤ s.size ∧ s.data.toList.take k = p
theorem Sc.zero (s : ByteArray) : Sc s 0 [] := ⟨Nat.zero_le _, rfl⟩
theorem Sc.step {s : ByteArray} {k : Nat} {p : List UInt8} (h : Sc s k p) (hk : k < s.size) : Sc s (k + 1) (p ++ [s[k]]) := ⟨hk, by rw [take_snoc s k hk, h.2]⟩
theorem Sc.all {s : ByteArray} {k : Nat} {p : List UInt8} (h : Sc s k p) (hk : k = s.size) : s.data.toList = p := by
  rw [← h.2, List.take_of_length_le (by rw [size_eq_data]; omega)]
/-- The sign's bytes. -/
def sgn (neg : Bool) : List UInt8 := if neg then [45] else []
/-- The fraction's bytes. -/
def fracP (fp f : List UInt8) : Prop := f.all dgt = true ∧ (fp = [] ∧ f = [] ∨ fp = 46 :: f)
/-- The exponent's bytes. -/
def expP (ep : List UInt8) (en : Bool) (e : List UInt8) : Prop :=
  e.all dgt = true ∧ (ep = [] ∧ e = [] ∧ en = false ∨ ∃ c sg, (c = 101 ∨ c = 69) ∧ ep = c :: (sg ++ e) ∧ (sg = [] ∧ en = false ∨ sg = [43] ∧ en = false ∨ sg = [45] ∧ en = true))
/-- The parts of a number literal. -/
def Num (l : List UInt8) (neg : Bool) (W fp f ep : List UInt8) (en : Bool) (e : List UInt8) : Prop :=
  l = sgn neg ++ W ++ fp ++ ep ∧ W.all dgt = true ∧ fracP fp f ∧ expP ep en e

theorem fracP_none : fracP [] [] := ⟨rfl, .inl ⟨rfl, rfl⟩⟩
theorem fracP_some {f : List UInt8} (h : f.all dgt = true) : fracP (46 :: f) f := ⟨h, .inr rfl⟩
/-- The exponent's sign. -/
def esg (sg : List UInt8) (en : Bool) : Prop := sg = [] ∧ en = false ∨ sg = [43] ∧ en = false ∨ sg = [45] ∧ en = true
theorem expP_some {c : UInt8} {sg e : List UInt8} {en : Bool} (hc : c = 101 ∨ c = 69) (hs : esg sg en) (h : e.all dgt = true) : expP (c :: (sg ++ e)) en e := ⟨h, .inr ⟨c, sg, hc, rfl, hs⟩⟩
theorem expP_none : expP [] false [] := ⟨rfl, .inl ⟨rfl, rfl, rfl⟩⟩

def R1 (s : ByteArray) (k : Nat) : Prop := ∃ neg, Sc s k (sgn neg)
def R2 (s : ByteArray) (k : Nat) : Prop := ∃ neg W, W.all dgt = true ∧ Sc s k (sgn neg ++ W)
def R3 (s : ByteArray) (k : Nat) : Prop := ∃ neg W fp f, W.all dgt = true ∧ fracP fp f ∧ Sc s k (sgn neg ++ W ++ fp)
def R4 (s : ByteArray) (k : Nat) : Prop := ∃ neg W fp f ep en e, W.all dgt = true ∧ fracP fp f ∧ expP ep en e ∧ Sc s k (sgn neg ++ W ++ fp ++ ep)
theorem R4.num {s : ByteArray} {k : Nat} (h : R4 s k) (hk : k = s.size) : ∃ neg W fp f ep en e, Num s.data.toList neg W fp f ep en e := by
  obtain ⟨neg, W, fp, f, ep, en, e, h1, h2, h3, h4⟩ := h
  exact ⟨neg, W, fp, f, ep, en, e, h4.all hk, h1, h2, h3⟩
theorem all_snoc {l : List UInt8} {c : UInt8} (h : l.all dgt = true) (hc : dgt c = true) : (l ++ [c]).all dgt = true := by
  rw [List.all_append, h, List.all_cons, hc]; rfl

def numPost (s : ByteArray) (w : World) (e : Ending) (w' : World) : Prop := ∃ b, e = .returned (.bool b) ∧ w' = w ∧ (b = true → ∃ neg W fp f ep en e, Num s.data.toList neg W fp f ep en e)
theorem numPost_no (s : ByteArray) (w : World) : numPost s w (.returned (.bool false)) w := ⟨false, rfl, rfl, fun h => by cases h⟩

set_option maxRecDepth 20000 in
set_option maxHeartbeats 2000000 in
theorem isNum_any (s : ByteArray) (w : World) (hs : s.size ≤ 1048576) :
    Calls Tryz.prog 7 #[.string s] w fun e w' => numPost s w e w' := by
  go_enter Tryz.func7, Tryz.ntmps7
  go_upto_region 3 with fail
  go_cut [17] (fun cv wc => ∃ b : Bool, cv = .bool b ∧ w = wc ∧ (b = true → 0 < s.size ∧ Sc s 1 (sgn true)))
  case first =>
    by_cases h0 : 0 < s.size
    · cases hc : ((s[0].toNat : Int) == 45) with
      | true =>
        have HS : Hid (Sc s 1 (sgn true)) := hid (by
          have := (Sc.zero s).step h0
          rw [show s[0] = 45 from eqc (n := 45) (by decide) hc] at this
          exact this)
        go_wp2
        go_meet
        case rel => exact ⟨true, rfl, rfl, fun _ => ⟨h0, HS.out⟩⟩
      | false =>
        go_wp2
        go_meet
        case rel => exact ⟨false, rfl, rfl, fun h => by cases h⟩
    · go_wp2
      go_meet
      case rel => exact ⟨false, rfl, rfl, fun h => by cases h⟩
  case rest =>
    obtain ⟨b, rfl, hwc, hb⟩ := hcut
    subst hwc
    have HB := hid hb
    clear hb
    go_upto_if 17 with fail
    go_cut [4] (fun kv wc => ∃ k : Nat, kv = .int .i64 k ∧ k ≤ s.size ∧ w = wc ∧ R1 s k)
    case first =>
      cases b with
      | true =>
        have hb := HB.out rfl
        go_wp2
        go_meet
        case rel => exact ⟨1, rfl, hb.1, rfl, true, hb.2⟩
      | false =>
        go_wp2
        go_meet
        case rel => exact ⟨0, rfl, Nat.zero_le _, rfl, false, Sc.zero s⟩
    case rest =>
      clear HB
      obtain ⟨k, rfl, hk, hwc, hR1⟩ := hcut
      subst hwc
      have HR1 := hid hR1
      clear hR1
      by_cases hlt : k < s.size
      · have hge1 : ¬ s.size ≤ k := by omega
        have hge2 : decide (s.size ≤ k) = false := decide_eq_false hge1
        go_upto_if 26 with fail
        go_cut [4] (fun kv wc => ∃ k : Nat, kv = .int .i64 k ∧ k ≤ s.size ∧ w = wc ∧ R2 s k)
        case first =>
          obtain ⟨neg, hsc⟩ := HR1.out
          have HSC := hid hsc
          clear hsc HR1
          cases hc : ((s[k].toNat : Int) == 48) with
          | true =>
            have HS := hid (HSC.out.step hlt)
            have HD : Hid (dgt s[k] = true) := hid (by rw [show s[k] = 48 from eqc (n := 48) (by decide) hc]; rfl)
            go_wp2
            go_meet
            case rel => exact ⟨k + 1, rfl, by omega, rfl, neg, [s[k]], all_snoc (l := []) rfl HD.out, HS.out⟩
          | false =>
            by_cases h19 : (49 : Int) ≤ (s[k].toNat : Int) ∧ (s[k].toNat : Int) ≤ 57
            · obtain ⟨h1, h2⟩ := h19
              go_wp2_with fail
              go_loop [4] (fun kv => ∃ (j : Nat) (W : List UInt8), kv = .int .i64 j ∧ j ≤ s.size ∧ W.all dgt = true ∧ Sc s j (sgn neg ++ W)) (fun kv => s.size - (intOf kv).toNat)
              case atStart => exact ⟨k, [], rfl, by omega, rfl, by rw [List.append_nil]; exact HSC.out⟩
              case round =>
                clear HSC
                obtain ⟨j, W, rfl, hj, hW, hsc⟩ := hrel
                have HW := hid hW
                have HSC := hid hsc
                clear hW hsc
                by_cases hjl : j < s.size
                · go_wp2_with fail
                  refine (isDigit_any _ _).mono ?_
                  rintro e w1 ⟨rfl, hw1⟩
                  obtain rfl := hw1.symm
                  rw [dgI_dgt]
                  cases hd : dgt s[j] with
                  | true =>
                    have HS := hid (HSC.out.step hjl)
                    go_wp2
                    go_round
                    case rel =>
                      exact ⟨j + 1, W ++ [s[j]], by go_num, by omega, all_snoc HW.out hd, by rw [← List.append_assoc]; exact HS.out⟩
                    case measure => simp [intOf]; omega
                  | false =>
                    go_wp2
                    go_meet
                    case rel => exact ⟨j, rfl, by omega, rfl, neg, W, HW.out, HSC.out⟩
                · go_wp2
                  go_meet
                  case rel => exact ⟨j, rfl, by omega, rfl, neg, W, HW.out, HSC.out⟩
            · have hg : decide ((49 : Int) ≤ (s[k].toNat : Int)) = false ∨ decide ((s[k].toNat : Int) ≤ 57) = false := by
                by_cases h1 : (49 : Int) ≤ (s[k].toNat : Int)
                · exact .inr (decide_eq_false fun h2 => h19 ⟨h1, h2⟩)
                · exact .inl (decide_eq_false h1)
              clear h19
              rcases hg with hg | hg
              · go_wp2
                go_ret
                exact numPost_no s w
              · by_cases h1 : (49 : Int) ≤ (s[k].toNat : Int)
                · go_wp2
                  go_ret
                  exact numPost_no s w
                · go_wp2
                  go_ret
                  exact numPost_no s w
        case rest =>
          clear HR1
          obtain ⟨k1, rfl, hk1, hwc, hR2⟩ := hcut
          subst hwc
          have HR2 := hid hR2
          clear hR2 hge1 hge2 hlt hk
          go_upto_region 13 with fail
          go_cut [58] (fun cv wc => ∃ b : Bool, cv = .bool b ∧ w = wc ∧ (b = true → ∃ h : k1 < s.size, s[k1] = 46))
          case first =>
            by_cases h0 : k1 < s.size
            · cases hc : ((s[k1].toNat : Int) == 46) with
              | true =>
                go_wp2
                go_meet
                case rel => exact ⟨true, rfl, rfl, fun _ => ⟨h0, eqc (n := 46) (by decide) hc⟩⟩
              | false =>
                go_wp2
                go_meet
                case rel => exact ⟨false, rfl, rfl, fun h => by cases h⟩
            · go_wp2
              go_meet
              case rel => exact ⟨false, rfl, rfl, fun h => by cases h⟩
          case rest =>
            obtain ⟨b, rfl, hwc, hb⟩ := hcut
            subst hwc
            have HB := hid hb
            clear hb
            go_upto_if 58 with fail
            go_cut [4, 5] (fun kv _ wc => ∃ k : Nat, kv = .int .i64 k ∧ k ≤ s.size ∧ w = wc ∧ R3 s k)
            case first =>
              obtain ⟨neg, W, hW, hsc⟩ := HR2.out
              have HSC := hid hsc
              have HW := hid hW
              clear hsc hW HR2
              cases b with
              | false =>
                go_wp2
                go_meet
                case rel => exact ⟨k1, rfl, hk1, rfl, neg, W, [], [], HW.out, fracP_none, by rw [List.append_nil]; exact HSC.out⟩
              | true =>
                obtain ⟨hlt1, hc1⟩ := HB.out rfl
                have HS : Hid (Sc s (k1 + 1) (sgn neg ++ W ++ [46])) := hid (by
                  have := HSC.out.step hlt1
                  rw [hc1] at this
                  exact this)
                clear hc1 HB
                go_wp2_with fail
                go_loop [4] (fun kv => ∃ (j : Nat) (f : List UInt8), kv = .int .i64 j ∧ j ≤ s.size ∧ k1 + 1 ≤ j ∧ f.all dgt = true ∧ Sc s j (sgn neg ++ W ++ (46 :: f))) (fun kv => s.size - (intOf kv).toNat)
                case atStart => exact ⟨k1 + 1, [], rfl, by omega, Nat.le_refl _, rfl, HS.out⟩
                case round =>
                  clear HS HSC
                  obtain ⟨j, f, rfl, hj, hj2, hf, hsc⟩ := hrel
                  have HF := hid hf
                  have HSC := hid hsc
                  clear hf hsc
                  by_cases hjl : j < s.size
                  · go_wp2_with fail
                    refine (isDigit_any _ _).mono ?_
                    rintro e w1 ⟨rfl, hw1⟩
                    obtain rfl := hw1.symm
                    rw [dgI_dgt]
                    cases hd : dgt s[j] with
                    | true =>
                      have HS := hid (HSC.out.step hjl)
                      go_wp2
                      go_round
                      case rel => exact ⟨j + 1, f ++ [s[j]], by go_num, by omega, by omega, all_snoc HF.out hd, by rw [← List.cons_append, ← List.append_assoc]; exact HS.out⟩
                      case measure => simp [intOf]; omega
                    | false =>
                      cases he : ((j : Int) == (k1 : Int) + 1) with
                      | true =>
                        go_wp2
                        go_ret
                        exact numPost_no s w
                      | false =>
                        go_wp2
                        go_meet
                        case rel => exact ⟨j, rfl, by omega, rfl, neg, W, _, f, HW.out, fracP_some HF.out, HSC.out⟩
                  · cases he : ((j : Int) == (k1 : Int) + 1) with
                    | true =>
                      go_wp2
                      go_ret
                      exact numPost_no s w
                    | false =>
                      go_wp2
                      go_meet
                      case rel => exact ⟨j, rfl, by omega, rfl, neg, W, _, f, HW.out, fracP_some HF.out, HSC.out⟩
            case rest =>
              clear HR2 HB hk1
              obtain ⟨k2, rfl, hk2, hwc, hR3⟩ := hcut
              subst hwc
              have HR3 := hid hR3
              clear hR3
              go_upto_region 20 with fail
              go_cut [90] (fun cv wc => ∃ b : Bool, cv = .bool b ∧ w = wc ∧ (b = true → ∃ h : k2 < s.size, s[k2] = 101 ∨ s[k2] = 69))
              case first =>
                by_cases h0 : k2 < s.size
                · cases hc : ((s[k2].toNat : Int) == 101) with
                  | true =>
                    go_wp2
                    go_meet
                    case rel => exact ⟨true, rfl, rfl, fun _ => ⟨h0, .inl (eqc (n := 101) (by decide) hc)⟩⟩
                  | false =>
                    cases hc2 : ((s[k2].toNat : Int) == 69) with
                    | true =>
                      go_wp2
                      go_meet
                      case rel => exact ⟨true, rfl, rfl, fun _ => ⟨h0, .inr (eqc (n := 69) (by decide) hc2)⟩⟩
                    | false =>
                      go_wp2
                      go_meet
                      case rel => exact ⟨false, rfl, rfl, fun h => by cases h⟩
                · go_wp2
                  go_meet
                  case rel => exact ⟨false, rfl, rfl, fun h => by cases h⟩
              case rest =>
                obtain ⟨b, rfl, hwc, hb⟩ := hcut
                subst hwc
                have HB := hid hb
                clear hb
                go_upto_if 90 with fail
                go_cut [4, 6] (fun kv _ wc => ∃ k : Nat, kv = .int .i64 k ∧ k ≤ s.size ∧ w = wc ∧ R4 s k)
                case first =>
                  obtain ⟨neg, W, fp, f, hW, hf, hsc⟩ := HR3.out
                  have HSC := hid hsc
                  have HW := hid hW
                  have HF := hid hf
                  clear hsc hW hf HR3
                  cases b with
                  | false =>
                    go_wp2
                    go_meet
                    case rel => exact ⟨k2, rfl, hk2, rfl, neg, W, fp, f, [], false, [], HW.out, HF.out, expP_none, by rw [List.append_nil]; exact HSC.out⟩
                  | true =>
                    obtain ⟨hlt2, hc2⟩ := HB.out rfl
                    obtain ⟨pre, hpre⟩ : ∃ pre, sgn neg ++ W ++ fp = pre := ⟨_, rfl⟩
                    obtain ⟨c, hc⟩ : ∃ c, s[k2] = c := ⟨_, rfl⟩
                    have HS : Hid (Sc s (k2 + 1) (pre ++ [c])) := hid (by
                      have := HSC.out.step hlt2
                      rw [hc, hpre] at this
                      exact this)
                    have HP := hid hpre
                    have HC : Hid (c = 101 ∨ c = 69) := hid (by rw [← hc]; exact hc2)
                    clear hc2 hc hpre HB HSC
                    go_upto_region 22 with fail
                    go_cut [107] (fun cv wc => ∃ b : Bool, cv = .bool b ∧ w = wc ∧ (b = true → ∃ h : k2 + 1 < s.size, s[k2 + 1] = 43 ∨ s[k2 + 1] = 45))
                    case first =>
                      by_cases h0 : k2 + 1 < s.size
                      · cases hc : ((s[k2 + 1].toNat : Int) == 43) with
                        | true =>
                          go_wp2
                          go_meet
                          case rel => exact ⟨true, rfl, rfl, fun _ => ⟨h0, .inl (eqc (n := 43) (by decide) hc)⟩⟩
                        | false =>
                          cases hc2 : ((s[k2 + 1].toNat : Int) == 45) with
                          | true =>
                            go_wp2
                            go_meet
                            case rel => exact ⟨true, rfl, rfl, fun _ => ⟨h0, .inr (eqc (n := 45) (by decide) hc2)⟩⟩
                          | false =>
                            go_wp2
                            go_meet
                            case rel => exact ⟨false, rfl, rfl, fun h => by cases h⟩
                      · go_wp2
                        go_meet
                        case rel => exact ⟨false, rfl, rfl, fun h => by cases h⟩
                    case rest =>
                      obtain ⟨b, rfl, hwc, hb⟩ := hcut
                      subst hwc
                      have HB := hid hb
                      clear hb
                      go_upto_if 107 with fail
                      go_cut [4] (fun kv wc => ∃ (k : Nat) (sg : List UInt8) (en : Bool), kv = .int .i64 k ∧ k ≤ s.size ∧ w = wc ∧ esg sg en ∧ Sc s k (pre ++ [c] ++ sg))
                      case first =>
                        cases b with
                        | false =>
                          go_wp2
                          go_meet
                          case rel => exact ⟨k2 + 1, [], false, rfl, by omega, rfl, .inl ⟨rfl, rfl⟩, by rw [List.append_nil]; exact HS.out⟩
                        | true =>
                          obtain ⟨h3, hc3⟩ := HB.out rfl
                          have HS2 := hid (HS.out.step h3)
                          have HC3 := hid hc3
                          clear hc3 HB
                          go_wp2
                          go_meet
                          case rel =>
                            rcases HC3.out with h | h
                            · exact ⟨k2 + 1 + 1, [43], false, rfl, by omega, rfl, .inr (.inl ⟨rfl, rfl⟩), by have := HS2.out; rw [h] at this; exact this⟩
                            · exact ⟨k2 + 1 + 1, [45], true, rfl, by omega, rfl, .inr (.inr ⟨rfl, rfl⟩), by have := HS2.out; rw [h] at this; exact this⟩
                      case rest =>
                        obtain ⟨k3, sg, en, rfl, hk3, hwc, hsg, hsc3⟩ := hcut
                        subst hwc
                        have HG := hid hsg
                        have HS3 := hid hsc3
                        clear hsg hsc3 HB HS
                        go_wp2_with fail
                        go_loop [4] (fun kv => ∃ (j : Nat) (e : List UInt8), kv = .int .i64 j ∧ j ≤ s.size ∧ k3 ≤ j ∧ e.all dgt = true ∧ Sc s j (pre ++ [c] ++ sg ++ e)) (fun kv => s.size - (intOf kv).toNat)
                        case atStart => exact ⟨k3, [], rfl, by omega, Nat.le_refl _, rfl, by rw [List.append_nil]; exact HS3.out⟩
                        case round =>
                          clear HS3
                          obtain ⟨j, e, rfl, hj, hj2, he, hsc⟩ := hrel
                          have HE := hid he
                          have HSC := hid hsc
                          clear he hsc
                          have HR4 : Hid (R4 s j) := hid ⟨neg, W, fp, f, _, en, e, HW.out, HF.out, expP_some HC.out HG.out HE.out, by rw [HP.out]; have := HSC.out; rw [List.append_assoc, List.append_assoc] at this; exact this⟩
                          by_cases hjl : j < s.size
                          · go_wp2_with fail
                            refine (isDigit_any _ _).mono ?_
                            rintro e1 w1 ⟨rfl, hw1⟩
                            obtain rfl := hw1.symm
                            rw [dgI_dgt]
                            cases hd : dgt s[j] with
                            | true =>
                              have HS := hid (HSC.out.step hjl)
                              go_wp2
                              go_round
                              case rel => exact ⟨j + 1, e ++ [s[j]], by go_num, by omega, by omega, all_snoc HE.out hd, by rw [← List.append_assoc]; exact HS.out⟩
                              case measure => simp [intOf]; omega
                            | false =>
                              cases he : ((j : Int) == (k3 : Int)) with
                              | true =>
                                go_wp2
                                go_ret
                                exact numPost_no s w
                              | false =>
                                go_wp2
                                go_meet
                                case rel => exact ⟨j, rfl, by omega, rfl, HR4.out⟩
                          · cases he : ((j : Int) == (k3 : Int)) with
                            | true =>
                              go_wp2
                              go_ret
                              exact numPost_no s w
                            | false =>
                              go_wp2
                              go_meet
                              case rel => exact ⟨j, rfl, by omega, rfl, HR4.out⟩
                case rest =>
                  obtain ⟨k4, rfl, hk4, hwc, hR4⟩ := hcut
                  subst hwc
                  have HR4 := hid hR4
                  clear hR4
                  obtain ⟨b4, hb4⟩ : ∃ b4, ((k4 : Int) == (s.size : Int)) = b4 := ⟨_, rfl⟩
                  go_wp2
                  go_ret
                  exact ⟨b4, rfl, rfl, fun h => HR4.out.num (by
                    rw [h] at hb4
                    have : (k4 : Int) = (s.size : Int) := by simpa using hb4
                    omega)⟩
      · go_wp2
        go_ret
        exact numPost_no s w
end Go.Proofs.Qxb6600768aGreatDoor
