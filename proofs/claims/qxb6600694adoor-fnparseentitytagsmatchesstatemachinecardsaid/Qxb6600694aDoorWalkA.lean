import Derived.Test.Qxb6600694aDoorRows
import Derived.Test.Qxb6600694aDoorPlain
import Derived.Test.Qxb6600694aDoorShelf
import Derived.WalkKit
import Derived.WalkSpells
import Derived.WalkLawsBesides
import Derived.Below
import Derived.Deep.QuietTactic
import Derived.BigQuiet
import Derived.RegionTactic
namespace Go.Proofs.Qxb6600694aDoor
open Go.RowKit Go.Shelf

theorem hid {p : Prop} (h : p) : Hid p := h
theorem ret_bool {a b : Bool} (h : a = true ↔ b = true) : Ending.returned (.bool a) = .returned (.bool b) := by rw [Bool.eq_iff_iff.2 h]
theorem ret_b {a b : Bool} (h : a = b) : Ending.returned (.bool a) = .returned (.bool b) := by rw [h]
theorem drop_cons (s : ByteArray) (k : Nat) (h : k < s.size) : s.data.toList.drop k = s[k] :: s.data.toList.drop (k + 1) := by
  rw [List.drop_eq_getElem_cons (by simpa using h)]; rfl
theorem take_snoc (s : ByteArray) (k : Nat) (h : k < s.size) : s.data.toList.take (k + 1) = s.data.toList.take k ++ [s[k]] := by
  rw [List.take_succ_eq_append_getElem (by simpa using h)]; rfl

theorem scan_none : ∀ {r : List UInt8}, Lib.indexByte r 34 = -1 → scan r = none
  | [], _ => rfl
  | c :: r, h => by
    rw [Lib.indexByte] at h
    rw [scan]
    split at h
    · cases h
    · rename_i hc
      rw [if_neg hc]
      split at h
      · rename_i hm
        rw [scan_none (by simpa using hm)]
        split <;> rfl
      · have := Lib.indexByte_ge r 34; omega
theorem idx_succ {c : UInt8} {r : List UInt8} {e : Nat} (h : Lib.indexByte (c :: r) 34 = e) : (c == 34) = true ∧ e = 0 ∨ ((c == 34) = false ∧ ∃ e' : Nat, e = e' + 1 ∧ Lib.indexByte r 34 = e') := by
  rw [Lib.indexByte] at h
  have hge := Lib.indexByte_ge r 34
  split at h
  · rename_i hc
    exact .inl ⟨hc, by omega⟩
  · rename_i hc
    split at h
    · omega
    · rename_i hm
      have hm' : Lib.indexByte r 34 ≠ -1 := by simpa using hm
      exact .inr ⟨by simpa using hc, (Lib.indexByte r 34).toNat, by omega, by omega⟩
theorem scan_some : ∀ {r : List UInt8} {e : Nat}, Lib.indexByte r 34 = e → (r.take e).all tg = true → scan r = some (r.take e, r.drop (e + 1))
  | [], e, h, _ => by simp [Lib.indexByte] at h
  | c :: r, e, h, ha => by
    rcases idx_succ h with ⟨hc, rfl⟩ | ⟨hc, e', rfl, he'⟩
    · rw [scan, if_pos hc]; rfl
    · rw [List.take_succ_cons, List.all_cons, Bool.and_eq_true] at ha
      rw [scan, if_neg (by simp [hc]), if_pos ha.1, scan_some he' ha.2]
      rfl
theorem scan_bad : ∀ {r : List UInt8} {e j : Nat} {x : UInt8}, Lib.indexByte r 34 = e → j < e → r[j]? = some x → tg x = false → scan r = none
  | [], _, _, _, _, _, h, _ => by simp at h
  | c :: r, e, j, x, h, hj, hx, ht => by
    rcases idx_succ h with ⟨hc, rfl⟩ | ⟨hc, e', rfl, he'⟩
    · exact absurd hj (Nat.not_lt_zero _)
    · rw [scan, if_neg (by simp [hc])]
      cases j with
      | zero =>
        simp at hx
        subst hx
        rw [if_neg (by simp [ht])]
      | succ j =>
        rw [scan_bad (j := j) he' (Nat.lt_of_succ_lt_succ hj) (by simpa using hx) ht]
        split <;> rfl

theorem isW_prefix (l : List UInt8) : Lib.hasPrefix l [87, 47] = isW l := by
  unfold Lib.hasPrefix isW
  match l with
  | [] => rfl
  | [a] => simp [List.isPrefixOf]
  | a :: b :: r => simp [List.isPrefixOf, Bool.beq_comm (a := (87 : UInt8)), Bool.beq_comm (a := (47 : UInt8))]

theorem trim_any (s : ByteArray) (w : World) (hs : s.size ≤ 9223372036854775807) :
    Calls Tryd.prog 17 #[.string s, .string ⟨#[32, 9]⟩] w fun e w' => e = .returned (.string ⟨(Lib.trimS s.data.toList [32, 9]).toArray⟩) ∧ Below w.heap.size w w' :=
  Any.strings_Trim_laid Tryd.lays160 (by kernel_rfl) s ⟨#[32, 9]⟩ w hs (by decide) (ascii_of_all (by decide))
theorem trimLeft_any (s : ByteArray) (w : World) :
    Calls Tryd.prog 18 #[.string s, .string ⟨#[32, 9]⟩] w fun e w' => e = .returned (.string ⟨(s.data.toList.dropWhile bl).toArray⟩) ∧ Below w.heap.size w w' := by
  have := Any.strings_TrimLeft_laid Tryd.lays161 (by kernel_rfl) s ⟨#[32, 9]⟩ w (by decide) (ascii_of_all (by decide))
  rw [show Lib.trimLeftS s.data.toList (⟨#[32, 9]⟩ : ByteArray).data.toList = s.data.toList.dropWhile bl from trimLeftS_bl _] at this
  exact this
theorem cutW_any (s : ByteArray) (w : World) :
    Calls Tryd.prog 27 #[.string s, .string ⟨#[87, 47]⟩] w fun e w' => e = .returned (.tuple #[.string ⟨(if isW s.data.toList then s.data.toList.drop 2 else s.data.toList).toArray⟩, .bool (isW s.data.toList)]) ∧ w' = w := by
  have := Any.strings_CutPrefix Tryd.lays103 s ⟨#[87, 47]⟩ w
  rw [show Lib.hasPrefix s.data.toList (⟨#[87, 47]⟩ : ByteArray).data.toList = isW s.data.toList from isW_prefix _,
    show Lib.trimPrefix s.data.toList (⟨#[87, 47]⟩ : ByteArray).data.toList = (if isW s.data.toList then s.data.toList.drop 2 else s.data.toList) by unfold Lib.trimPrefix; rw [show Lib.hasPrefix s.data.toList (⟨#[87, 47]⟩ : ByteArray).data.toList = isW s.data.toList from isW_prefix _]; rfl] at this
  exact this
def isQ : List UInt8 → Bool
  | c :: _ => c == 34
  | [] => false
theorem isQ_prefix (l : List UInt8) : Lib.hasPrefix l [34] = isQ l := by
  unfold Lib.hasPrefix isQ
  cases l with
  | nil => rfl
  | cons a r => simp [List.isPrefixOf, Bool.beq_comm (a := (34 : UInt8))]
theorem quote_any (s : ByteArray) (w : World) :
    Calls Tryd.prog 28 #[.string s, .string ⟨#[34]⟩] w fun e w' => e = .returned (.bool (isQ s.data.toList)) ∧ w' = w := by
  have := Any.strings_HasPrefix Tryd.lays99 s ⟨#[34]⟩ w
  rw [show Lib.hasPrefix s.data.toList (⟨#[34]⟩ : ByteArray).data.toList = isQ s.data.toList from isQ_prefix _] at this
  exact this
theorem index_any (s : ByteArray) (w : World) :
    Calls Tryd.prog 36 #[.string s, .int .u8 34] w fun e w' => e = .returned (.int .i64 (Lib.indexByte s.data.toList 34)) ∧ w' = w :=
  Any.stringslite_IndexByte Tryd.lays217 s 34 w

theorem isQ_no {l : List UInt8} (h : isQ l = false) : cutQ l = none := by
  cases l with
  | nil => rfl
  | cons a r =>
    have h' : (a == 34) = false := h
    rw [cutQ, h']; rfl
theorem isQ_yes {l : List UInt8} (h : isQ l = true) : ∃ r, l = 34 :: r := by
  cases l with
  | nil => cases h
  | cons a r =>
    unfold isQ at h
    exact ⟨r, by rw [beq_iff_eq.1 h]⟩

set_option maxHeartbeats 400000 in
theorem index29_any (s : ByteArray) (w : World) :
    Calls Tryd.prog 29 #[.string s, .int .u8 34] w fun e w' => e = .returned (.int .i64 (Lib.indexByte s.data.toList 34)) ∧ w' = w := by
  have c := index_any s
  obtain ⟨x, hx⟩ : ∃ x, Lib.indexByte s.data.toList 34 = x := ⟨_, rfl⟩
  simp only [hx] at c
  rw [hx]
  clear hx
  go_enter Tryd.func29, Tryd.ntmps29
  go_wp2_with (go_at_call 36; refine (c _).mono ?_; rintro e w' ⟨rfl, rfl⟩)
  go_ret
  exact ⟨rfl, rfl⟩
/-- What cutEntityTag hands back. -/
def cutRes (wk : Bool) : Option (List UInt8 × List UInt8) → Value
  | none => .tuple #[.agg #[.bool false, .string ⟨#[]⟩], .string ⟨#[]⟩, .bool false]
  | some x => .tuple #[.agg #[.bool wk, .string ⟨x.1.toArray⟩], .string ⟨x.2.toArray⟩, .bool true]

theorem bytes_inj : ∀ x y : ByteArray, x.data.toList = y.data.toList → x = y := by
  rintro ⟨⟨x⟩⟩ ⟨⟨y⟩⟩ h
  simp at h
  rw [h]
theorem get_r {q : ByteArray} {r : List UInt8} {k : Nat} (hr : q.data.toList = 34 :: r) (h1 : 1 ≤ k) (hk : k < q.size) : r[k - 1]? = some q[k] := by
  obtain ⟨j, rfl⟩ : ∃ j, k = j + 1 := ⟨k - 1, by omega⟩
  have h2 : q.data.toList[j + 1]? = some q[j + 1] := by
    rw [List.getElem?_eq_getElem (by simpa using hk)]; rfl
  rw [hr, List.getElem?_cons_succ] at h2
  simpa using h2
theorem tg_no {c : UInt8} (h : (c.toNat : Int) ≤ 32 ∨ ((c.toNat : Int) == 127) = true) : tg c = false := by
  unfold tg
  rcases h with h | h
  · rw [decide_eq_false (by omega)]; rfl
  · have h2 : (c.toNat : Int) = 127 := by simpa using h
    have : c = 127 := UInt8.toNat_inj.1 (by show c.toNat = 127; omega)
    rw [this]; decide
theorem tg_yes {c : UInt8} (h : (32 : Int) < (c.toNat : Int) ∧ ((c.toNat : Int) == 127) = false) : tg c = true := by
  unfold tg
  have h2 : c ≠ 127 := by
    intro e
    subst e
    exact absurd h.2 (by decide)
  rw [decide_eq_true (by omega)]
  simpa using h2
theorem cut_bad {q : ByteArray} {r : List UInt8} {e k : Nat} (hr : q.data.toList = 34 :: r) (he : Lib.indexByte r 34 = e) (h1 : 1 ≤ k) (hk : k ≤ e) (hs : k < q.size) (hb : ((q[k]'hs).toNat : Int) ≤ 32 ∨ (((q[k]'hs).toNat : Int) == 127) = true) : cutQ q.data.toList = none := by
  rw [hr, cutQ, scan_bad he (by omega : k - 1 < e) (get_r hr h1 hs) (tg_no hb)]
  rfl
theorem take_good {q : ByteArray} {r : List UInt8} {k : Nat} (hr : q.data.toList = 34 :: r) (h1 : 1 ≤ k) (hs : k < q.size) (ha : (r.take (k - 1)).all tg = true) (hb : (32 : Int) < ((q[k]'hs).toNat : Int) ∧ (((q[k]'hs).toNat : Int) == 127) = false) : (r.take (k + 1 - 1)).all tg = true := by
  have hg := get_r hr h1 hs
  have hlt : k - 1 < r.length := (List.getElem?_eq_some_iff.1 hg).1
  have e : k + 1 - 1 = (k - 1) + 1 := by omega
  rw [e, List.take_succ_eq_append_getElem hlt, List.all_append, ha]
  have h3 : r[k - 1] = q[k] := (List.getElem?_eq_some_iff.1 hg).2
  rw [h3]
  simp [tg_yes hb]
theorem cut_good {q : ByteArray} {r : List UInt8} {e : Nat} (hr : q.data.toList = 34 :: r) (he : Lib.indexByte r 34 = e) (ha : (r.take e).all tg = true) :
    cutQ q.data.toList = some ((q.extract 0 (e + 2)).data.toList, (q.extract (e + 2) q.size).data.toList) := by
  have h34 := (Lib.indexByte_some he).1
  have hlt : e < r.length := (List.getElem?_eq_some_iff.1 h34).1
  have h34' : r[e] = 34 := (List.getElem?_eq_some_iff.1 h34).2
  rw [Lib.extract_data, Lib.extract_to_end, hr, cutQ, scan_some he ha]
  simp only [beq_self_eq_true, if_true, Option.map_some, List.drop_zero, Nat.sub_zero]
  rw [List.take_succ_cons, List.take_succ_eq_append_getElem hlt, h34', List.drop_succ_cons]

set_option maxHeartbeats 1000000 in
theorem cut_any (s : ByteArray) (w : World) (hs : s.size ≤ 1048576) :
    Calls Tryd.prog 19 #[.string s] w fun e w' => e = .returned (cutRes (isW s.data.toList) (cutQ (if isW s.data.toList then s.data.toList.drop 2 else s.data.toList))) ∧ Below w.heap.size w w' := by
  have c27 := cutW_any s
  cases hw : isW s.data.toList with
  | true =>
    simp only [hw, if_true] at c27 ⊢
    have hz : (s.data.toList.drop 2).length ≤ 1048576 := by simp; omega
    obtain ⟨q, hq⟩ : ∃ q : ByteArray, ⟨(s.data.toList.drop 2).toArray⟩ = q := ⟨_, rfl⟩
    have hql : s.data.toList.drop 2 = q.data.toList := by rw [← hq]
    rw [hql] at hz ⊢
    rw [hq] at c27
    have hz' : q.size ≤ 1048576 := by simpa using hz
    clear hz hq hql hw
    cases hQ : isQ q.data.toList with
    | false =>
      have HN := hid (isQ_no hQ)
      have c28 : ∀ w, Calls Tryd.prog 28 #[.string q, .string ⟨#[34]⟩] w fun e w' => e = .returned (.bool false) ∧ w' = w := fun w => hQ ▸ quote_any q w
      clear hQ
      go_enter Tryd.func19, Tryd.ntmps19
      go_wp2_with (first | (go_at_call 27; refine (c27 _).mono ?_; rintro e w' ⟨rfl, rfl⟩) | (go_at_call 28; refine (c28 _).mono ?_; rintro e w' ⟨rfl, rfl⟩))
      exact bodyPost_ret (v := cutRes true none) (by simp [results, Tryd.results19, go_sem, cutRes]) rfl ⟨by rw [HN.out], by repeat first | exact Below.refl _ _ | refine Below.drew ?_ | refine Below.setCell ?_ (by simp) _ | refine Below.alloc ?_ (by simp) _⟩
    | true =>
      obtain ⟨r, hr⟩ := isQ_yes hQ
      have c28 : ∀ w, Calls Tryd.prog 28 #[.string q, .string ⟨#[34]⟩] w fun e w' => e = .returned (.bool true) ∧ w' = w := fun w => hQ ▸ quote_any q w
      have hrl : q.size = r.length + 1 := by have : q.data.toList.length = q.size := by simp
                                             rw [hr] at this; simp at this; omega
      have c36 : ∀ w, Calls Tryd.prog 29 #[.string (q.extract 1 q.size), .int .u8 34] w fun e w' => e = .returned (.int .i64 (Lib.indexByte r 34)) ∧ w' = w := fun w => by
        have := index29_any (q.extract 1 q.size) w
        rw [Lib.extract_to_end, hr] at this
        exact this
      have hge := Lib.indexByte_ge r 34
      by_cases hm : Lib.indexByte r 34 = -1
      · have HN : Hid (cutQ q.data.toList = none) := by rw [hr, cutQ, scan_none hm]; rfl
        rw [hm] at c36
        clear hm hge hr hQ
        have h1 : 1 ≤ q.size := by omega
        clear hrl
        go_enter Tryd.func19, Tryd.ntmps19
        go_wp2_with (first | (go_at_call 27; refine (c27 _).mono ?_; rintro e w' ⟨rfl, rfl⟩) | (go_at_call 28; refine (c28 _).mono ?_; rintro e w' ⟨rfl, rfl⟩) | (go_at_call 29; refine (c36 _).mono ?_; rintro e w' ⟨rfl, rfl⟩))
        exact bodyPost_ret (v := cutRes true none) (by simp [results, Tryd.results19, go_sem, cutRes]) rfl ⟨by rw [HN.out], by repeat first | exact Below.refl _ _ | refine Below.drew ?_ | refine Below.setCell ?_ (by simp) _ | refine Below.alloc ?_ (by simp) _⟩
      · obtain ⟨e, he⟩ : ∃ e : Nat, Lib.indexByte r 34 = e := ⟨(Lib.indexByte r 34).toNat, by omega⟩
        have hroom : e + 2 ≤ q.size := by
          have := Lib.index_room r [34] (by rw [Lib.index_one]; omega)
          rw [Lib.index_one, he] at this
          simp at this; omega
        rw [he] at c36
        have HE := hid he
        have HR := hid hr
        clear hm hge hr hQ he hrl
        have hd : decide ((e : Int) < 0) = false := decide_eq_false (by omega)
        go_enter Tryd.func19, Tryd.ntmps19
        go_wp2_with (first | (go_at_call 27; refine (c27 _).mono ?_; rintro e w' ⟨rfl, rfl⟩) | (go_at_call 28; refine (c28 _).mono ?_; rintro e w' ⟨rfl, rfl⟩) | (go_at_call 29; refine (c36 _).mono ?_; rintro e w' ⟨rfl, rfl⟩))
        go_loop [9] (fun i => ∃ k : Nat, 1 ≤ k ∧ k ≤ e + 1 ∧ i = .int .i64 k ∧ (r.take (k - 1)).all tg = true) (fun i => e + 1 - (intOf i).toNat)
        case atStart => exact ⟨1, Nat.le_refl _, by omega, rfl, rfl⟩
        case round =>
          obtain ⟨k, hk1, hk2, rfl, ha⟩ := hrel
          have HA := hid ha
          clear ha
          by_cases hk : k ≤ e
          · go_wp2
            · have hbad : ((q[k]'(by omega)).toNat : Int) ≤ 32 ∨ (((q[k]'(by omega)).toNat : Int) == 127) = true := by assumption
              have HN := hid (cut_bad HR.out HE.out hk1 hk (by omega) hbad)
              exact bodyPost_ret (v := cutRes true none) (by simp [results, Tryd.results19, go_sem, cutRes]) rfl ⟨by rw [HN.out], by repeat first | exact Below.refl _ _ | refine Below.drew ?_ | refine Below.setCell ?_ (by simp) _ | refine Below.alloc ?_ (by simp) _⟩
            · have hgood : (32 : Int) < ((q[k]'(by omega)).toNat : Int) ∧ (((q[k]'(by omega)).toNat : Int) == 127) = false := by assumption
              go_round
              case rel => exact ⟨k + 1, by omega, by omega, by go_num, take_good HR.out hk1 (by omega) HA.out hgood⟩
              case measure => simp [intOf]; omega
            · have hbad : ((q[k]'(by omega)).toNat : Int) ≤ 32 ∨ (((q[k]'(by omega)).toNat : Int) == 127) = true := .inl (by assumption)
              have HN := hid (cut_bad HR.out HE.out hk1 hk (by omega) hbad)
              exact bodyPost_ret (v := cutRes true none) (by simp [results, Tryd.results19, go_sem, cutRes]) rfl ⟨by rw [HN.out], by repeat first | exact Below.refl _ _ | refine Below.drew ?_ | refine Below.setCell ?_ (by simp) _ | refine Below.alloc ?_ (by simp) _⟩
          · have HY := hid (cut_good HR.out HE.out (by have := HA.out; rwa [show k - 1 = e by omega] at this))
            go_wp2
            go_region
            go_wp2
            exact bodyPost_ret (v := .tuple #[.agg #[.bool true, .string (q.extract 0 (e + 2))], .string (q.extract (e + 2) q.size), .bool true]) (by simp [results, Tryd.results19, go_sem]) rfl ⟨by rw [HY.out]; rfl, by repeat first | exact Below.refl _ _ | refine Below.drew ?_ | refine Below.setCell ?_ (by simp) _ | refine Below.alloc ?_ (by simp) _⟩
  | false =>
    simp only [hw, if_false, Bool.false_eq_true] at c27 ⊢
    obtain ⟨q, hq⟩ : ∃ q : ByteArray, s = q := ⟨_, rfl⟩
    subst hq
    obtain ⟨q, hq⟩ : ∃ q : ByteArray, s = q := ⟨_, rfl⟩
    have hz' : q.size ≤ 1048576 := by rw [← hq]; exact hs
    rw [show (⟨s.data.toList.toArray⟩ : ByteArray) = q from hq] at c27
    subst hq
    clear hw hs
    cases hQ : isQ s.data.toList with
    | false =>
      have HN := hid (isQ_no hQ)
      have c28 : ∀ w, Calls Tryd.prog 28 #[.string s, .string ⟨#[34]⟩] w fun e w' => e = .returned (.bool false) ∧ w' = w := fun w => hQ ▸ quote_any s w
      clear hQ
      go_enter Tryd.func19, Tryd.ntmps19
      go_wp2_with (first | (go_at_call 27; refine (c27 _).mono ?_; rintro e w' ⟨rfl, rfl⟩) | (go_at_call 28; refine (c28 _).mono ?_; rintro e w' ⟨rfl, rfl⟩))
      exact bodyPost_ret (v := cutRes false none) (by simp [results, Tryd.results19, go_sem, cutRes]) rfl ⟨by rw [HN.out], by repeat first | exact Below.refl _ _ | refine Below.drew ?_ | refine Below.setCell ?_ (by simp) _ | refine Below.alloc ?_ (by simp) _⟩
    | true =>
      obtain ⟨r, hr⟩ := isQ_yes hQ
      have c28 : ∀ w, Calls Tryd.prog 28 #[.string s, .string ⟨#[34]⟩] w fun e w' => e = .returned (.bool true) ∧ w' = w := fun w => hQ ▸ quote_any s w
      have hrl : s.size = r.length + 1 := by have : s.data.toList.length = s.size := by simp
                                             rw [hr] at this; simp at this; omega
      have c36 : ∀ w, Calls Tryd.prog 29 #[.string (s.extract 1 s.size), .int .u8 34] w fun e w' => e = .returned (.int .i64 (Lib.indexByte r 34)) ∧ w' = w := fun w => by
        have := index29_any (s.extract 1 s.size) w
        rw [Lib.extract_to_end, hr] at this
        exact this
      have hge := Lib.indexByte_ge r 34
      by_cases hm : Lib.indexByte r 34 = -1
      · have HN : Hid (cutQ s.data.toList = none) := by rw [hr, cutQ, scan_none hm]; rfl
        rw [hm] at c36
        clear hm hge hr hQ
        have h1 : 1 ≤ s.size := by omega
        clear hrl
        go_enter Tryd.func19, Tryd.ntmps19
        go_wp2_with (first | (go_at_call 27; refine (c27 _).mono ?_; rintro e w' ⟨rfl, rfl⟩) | (go_at_call 28; refine (c28 _).mono ?_; rintro e w' ⟨rfl, rfl⟩) | (go_at_call 29; refine (c36 _).mono ?_; rintro e w' ⟨rfl, rfl⟩))
        exact bodyPost_ret (v := cutRes false none) (by simp [results, Tryd.results19, go_sem, cutRes]) rfl ⟨by rw [HN.out], by repeat first | exact Below.refl _ _ | refine Below.drew ?_ | refine Below.setCell ?_ (by simp) _ | refine Below.alloc ?_ (by simp) _⟩
      · obtain ⟨e, he⟩ : ∃ e : Nat, Lib.indexByte r 34 = e := ⟨(Lib.indexByte r 34).toNat, by omega⟩
        have hroom : e + 2 ≤ s.size := by
          have := Lib.index_room r [34] (by rw [Lib.index_one]; omega)
          rw [Lib.index_one, he] at this
          simp at this; omega
        rw [he] at c36
        have HE := hid he
        have HR := hid hr
        clear hm hge hr hQ he hrl
        have hd : decide ((e : Int) < 0) = false := decide_eq_false (by omega)
        go_enter Tryd.func19, Tryd.ntmps19
        go_wp2_with (first | (go_at_call 27; refine (c27 _).mono ?_; rintro e w' ⟨rfl, rfl⟩) | (go_at_call 28; refine (c28 _).mono ?_; rintro e w' ⟨rfl, rfl⟩) | (go_at_call 29; refine (c36 _).mono ?_; rintro e w' ⟨rfl, rfl⟩))
        go_loop [9] (fun i => ∃ k : Nat, 1 ≤ k ∧ k ≤ e + 1 ∧ i = .int .i64 k ∧ (r.take (k - 1)).all tg = true) (fun i => e + 1 - (intOf i).toNat)
        case atStart => exact ⟨1, Nat.le_refl _, by omega, rfl, rfl⟩
        case round =>
          obtain ⟨k, hk1, hk2, rfl, ha⟩ := hrel
          have HA := hid ha
          clear ha
          by_cases hk : k ≤ e
          · go_wp2
            · have hbad : ((s[k]'(by omega)).toNat : Int) ≤ 32 ∨ (((s[k]'(by omega)).toNat : Int) == 127) = true := by assumption
              have HN := hid (cut_bad HR.out HE.out hk1 hk (by omega) hbad)
              exact bodyPost_ret (v := cutRes false none) (by simp [results, Tryd.results19, go_sem, cutRes]) rfl ⟨by rw [HN.out], by repeat first | exact Below.refl _ _ | refine Below.drew ?_ | refine Below.setCell ?_ (by simp) _ | refine Below.alloc ?_ (by simp) _⟩
            · have hgood : (32 : Int) < ((s[k]'(by omega)).toNat : Int) ∧ (((s[k]'(by omega)).toNat : Int) == 127) = false := by assumption
              go_round
              case rel => exact ⟨k + 1, by omega, by omega, by go_num, take_good HR.out hk1 (by omega) HA.out hgood⟩
              case measure => simp [intOf]; omega
            · have hbad : ((s[k]'(by omega)).toNat : Int) ≤ 32 ∨ (((s[k]'(by omega)).toNat : Int) == 127) = true := .inl (by assumption)
              have HN := hid (cut_bad HR.out HE.out hk1 hk (by omega) hbad)
              exact bodyPost_ret (v := cutRes false none) (by simp [results, Tryd.results19, go_sem, cutRes]) rfl ⟨by rw [HN.out], by repeat first | exact Below.refl _ _ | refine Below.drew ?_ | refine Below.setCell ?_ (by simp) _ | refine Below.alloc ?_ (by simp) _⟩
          · have HY := hid (cut_good HR.out HE.out (by have := HA.out; rwa [show k - 1 = e by omega] at this))
            go_wp2
            go_region
            go_wp2
            exact bodyPost_ret (v := .tuple #[.agg #[.bool false, .string (s.extract 0 (e + 2))], .string (s.extract (e + 2) s.size), .bool true]) (by simp [results, Tryd.results19, go_sem]) rfl ⟨by rw [HY.out]; rfl, by repeat first | exact Below.refl _ _ | refine Below.drew ?_ | refine Below.setCell ?_ (by simp) _ | refine Below.alloc ?_ (by simp) _⟩
end Go.Proofs.Qxb6600694aDoor
