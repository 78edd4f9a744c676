import Derived.Test.Qxb6600768aGreatDoorWalkG
import Derived.Lib.AppendIntMem
namespace Go.Proofs.Qxb6600768aGreatDoor
open Go.RowKit Go.Shelf

/-- An integer as the program holds it. -/
def sgA (z : Int) : Value := .agg #[.bool (decide (z < 0)), .string (dstr z.natAbs)]
theorem sgA_eq {z : Int} {s : Bool} {n : Nat} (h1 : decide (z < 0) = s) (h2 : z.natAbs = n) : Value.agg #[.bool s, .string (dstr n)] = sgA z := by unfold sgA; rw [h1, h2]
theorem noPre {l : List UInt8} (h : l.all dgt = true) {c : UInt8} (hc : dgt c = false) : Lib.hasPrefix l [c] = false := by
  unfold Lib.hasPrefix
  cases l with
  | nil => rfl
  | cons x l =>
    rw [List.all_cons, Bool.and_eq_true] at h
    have : (c == x) = false := by
      simp only [beq_eq_false_iff_ne, ne_eq]
      intro e
      rw [e, h.1] at hc
      cases hc
    simp [List.isPrefixOf, this]
theorem trimPre_no {l : List UInt8} {p : List UInt8} (h : Lib.hasPrefix l p = false) : Lib.trimPrefix l p = l := by unfold Lib.trimPrefix; rw [h]; rfl
theorem hasPre_cons (c : UInt8) (l : List UInt8) : Lib.hasPrefix (c :: l) [c] = true := by simp [Lib.hasPrefix, List.isPrefixOf]
theorem trimPre_cons (c : UInt8) (l : List UInt8) : Lib.trimPrefix (c :: l) [c] = l := by unfold Lib.trimPrefix; rw [hasPre_cons]; rfl
theorem trim_dstr {e : List UInt8} (h : e.all dgt = true) : (⟨(trim e).toArray⟩ : ByteArray) = dstr (val e) := by rw [trim_digs h]; rfl
theorem dstr_isEmpty (n : Nat) : (dstr n).toList.isEmpty = decide (n = 0) := by
  rw [ByteArray.toList_eq, dstr_data]
  by_cases h : n = 0
  · subst h; rfl
  · cases hd : digs n with
    | nil => exact absurd (digs_nil.1 hd) h
    | cons => rw [decide_eq_false h]; rfl
/-- What the two calls at the head of parseInteger make of the text. -/
theorem text_parts {sg e : List UInt8} {en : Bool} (hs : esg sg en) (he : e.all dgt = true) :
    Lib.hasPrefix (Lib.trimPrefix (sg ++ e) [43]) [45] = en ∧ (en = false → Lib.trimPrefix (sg ++ e) [43] = e) ∧ Lib.trimPrefix (Lib.trimPrefix (sg ++ e) [43]) [45] = e := by
  have h43 := noPre he (c := 43) (by decide)
  have h45 := noPre he (c := 45) (by decide)
  rcases hs with ⟨rfl, rfl⟩ | ⟨rfl, rfl⟩ | ⟨rfl, rfl⟩
  · rw [List.nil_append, trimPre_no h43]
    exact ⟨h45, fun _ => rfl, trimPre_no h45⟩
  · have : Lib.trimPrefix ([43] ++ e) [43] = e := trimPre_cons 43 e
    rw [this]
    exact ⟨h45, fun _ => rfl, trimPre_no h45⟩
  · have : Lib.trimPrefix ([45] ++ e) [43] = 45 :: e := trimPre_no (by simp [Lib.hasPrefix, List.isPrefixOf])
    rw [this]
    exact ⟨hasPre_cons 45 e, ⟨fun h => Bool.noConfusion h, trimPre_cons 45 e⟩⟩

set_option maxRecDepth 20000 in
set_option maxHeartbeats 1000000 in
theorem parseInteger_any (sg e : List UInt8) (en : Bool) (hs : esg sg en) (he : e.all dgt = true) (w : World) :
    Calls Tryz.prog 32 #[.string ⟨(sg ++ e).toArray⟩] w fun x w' => x = .returned (sgA (sv en (val e))) ∧ Below w.heap.size w w' := by
  obtain ⟨h1, h2, h3⟩ := text_parts hs he
  obtain ⟨t, ht⟩ : ∃ t, Lib.trimPrefix (sg ++ e) [43] = t := ⟨_, rfl⟩
  rw [ht] at h1 h2 h3
  have HT := hid ht
  have H1 := hid h1
  have H2 := hid h2
  have H3 := hid h3
  have HE := hid he
  clear h1 h2 h3 ht hs he
  go_enter Tryz.func32, Tryz.ntmps32
  go_wp2_with fail
  refine (trimPrefix_any _ _ _).mono ?_
  rintro x w1 ⟨rfl, hw1⟩
  subst hw1
  rw [show (⟨(Lib.trimPrefix (⟨(sg ++ e).toArray⟩ : ByteArray).data.toList (⟨#[43]⟩ : ByteArray).data.toList).toArray⟩ : ByteArray) = ⟨t.toArray⟩ from by rw [← HT.out]]
  go_wp2_with fail
  refine (cutPrefix_any _ _ _).mono ?_
  rintro x w1 ⟨rfl, hw1⟩
  subst hw1
  rw [show (⟨(Lib.trimPrefix (⟨t.toArray⟩ : ByteArray).data.toList (⟨#[45]⟩ : ByteArray).data.toList).toArray⟩ : ByteArray) = ⟨e.toArray⟩ from by rw [← H3.out],
    show Lib.hasPrefix (⟨t.toArray⟩ : ByteArray).data.toList (⟨#[45]⟩ : ByteArray).data.toList = en from H1.out]
  obtain ⟨d, hd⟩ : ∃ d, dstr (val e) = d := ⟨_, rfl⟩
  cases en with
  | true =>
    have hem : d.toList.isEmpty = decide (val e = 0) := by rw [← hd]; exact dstr_isEmpty _
    have HR : Hid (sgA (sv true (val e)) = .agg #[.bool (!decide (val e = 0)), .string d]) := hid (by
      rw [← hd]
      symm
      apply sgA_eq
      · by_cases h0 : val e = 0
        · rw [decide_eq_true h0, h0]; rfl
        · rw [decide_eq_false h0]; exact decide_eq_true (by simp only [sv, if_true]; omega)
      · simp only [sv, if_true]; omega)
    have HD := hid hd
    obtain ⟨b, hb⟩ : ∃ b : Bool, decide (val e = 0) = b := ⟨_, rfl⟩
    rw [hb] at hem HR
    clear hb hd
    go_wp2_with fail
    refine (trimLeft_any e _).mono ?_
    rintro x w1 ⟨rfl, hw1⟩
    subst hw1
    rw [trim_dstr HE.out, HD.out]
    go_wp2
    exact bodyPost_ret (v := .agg #[.bool (!b), .string d]) (by simp [results, Tryz.results32, go_sem]) rfl ⟨by rw [HR.out], by repeat first | exact Below.refl _ _ | refine Below.drew ?_ | refine Below.setCell ?_ (by simp) _ | refine Below.alloc ?_ (by simp) _⟩
  | false =>
    have HR : Hid (sgA (sv false (val e)) = .agg #[.bool false, .string d]) := hid (by
      rw [← hd]
      symm
      apply sgA_eq
      · exact decide_eq_false (by simp only [sv]; simp)
      · simp [sv])
    have HD := hid hd
    have HTE := hid (H2.out rfl)
    clear hd
    go_wp2_with fail
    rw [HTE.out]
    refine (trimLeft_any e _).mono ?_
    rintro x w1 ⟨rfl, hw1⟩
    subst hw1
    rw [trim_dstr HE.out, HD.out]
    go_wp2
    exact bodyPost_ret (v := .agg #[.bool false, .string d]) (by simp [results, Tryz.results32, go_sem]) rfl ⟨by rw [HR.out], by repeat first | exact Below.refl _ _ | refine Below.drew ?_ | refine Below.setCell ?_ (by simp) _ | refine Below.alloc ?_ (by simp) _⟩
end Go.Proofs.Qxb6600768aGreatDoor
