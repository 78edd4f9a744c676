import Derived.Test.Qxb6600768aGreatDoorWalkK
namespace Go.Proofs.Qxb6600768aGreatDoor
open Go.RowKit Go.Shelf

/-! ### The text's parts -/
theorem esg_mem {sg : List UInt8} {en : Bool} (h : esg sg en) : ∀ x ∈ sg, x = 43 ∨ x = 45 := by
  rcases h with ⟨rfl, _⟩ | ⟨rfl, _⟩ | ⟨rfl, _⟩ <;> simp
theorem dgt_mem {l : List UInt8} (h : l.all dgt = true) {x : UInt8} (hx : x ∈ l) : 48 ≤ x.toNat ∧ x.toNat ≤ 57 := dgt_iff.1 (List.all_eq_true.1 h x hx)
theorem lower_id {x : UInt8} (h : x.toNat < 65) : Lib.lowerB x = x := by
  have : Lib.isUpperB x = false := by
    unfold Lib.isUpperB
    simp [UInt8.le_iff_toNat_le]
    omega
  unfold Lib.lowerB
  rw [this]
  rfl
theorem lower_list : ∀ {l : List UInt8}, (∀ x ∈ l, x.toNat < 65) → Lib.toLowerA l = l
  | [], _ => rfl
  | x :: l, h => by
    show Lib.lowerB x :: Lib.toLowerA l = _
    rw [lower_id (h x (List.mem_cons_self ..)), lower_list fun y hy => h y (List.mem_cons_of_mem _ hy)]
theorem frac_mem {fp f : List UInt8} (h : fracP fp f) : ∀ x ∈ fp, 46 ≤ x.toNat ∧ x.toNat ≤ 57 := by
  rcases h.2 with ⟨rfl, _⟩ | rfl
  · simp
  · intro x hx
    rcases List.mem_cons.1 hx with rfl | hx
    · decide
    · have := dgt_mem h.1 hx; omega
/-- The unsigned text in small letters: the mantissa, and behind an 'e' the exponent's text. -/
theorem low_parts {neg en : Bool} {W fp f ep e l : List UInt8} (h : Num l neg W fp f ep en e) :
    (∀ x ∈ W ++ fp ++ ep, x.toNat < 128) ∧ (∀ x ∈ W ++ fp, x ≠ 101) ∧ ∃ sg, esg sg en ∧ ((Lib.toLowerA (W ++ fp ++ ep) = W ++ fp ∧ sg ++ e = []) ∨ Lib.toLowerA (W ++ fp ++ ep) = (W ++ fp) ++ 101 :: (sg ++ e)) := by
  obtain ⟨_, hW, hf, he⟩ := h
  have m1 : ∀ x ∈ W ++ fp, 46 ≤ x.toNat ∧ x.toNat ≤ 57 := by
    intro x hx
    rcases List.mem_append.1 hx with h | h
    · have := dgt_mem hW h; omega
    · exact frac_mem hf x h
  have l1 : Lib.toLowerA (W ++ fp) = W ++ fp := lower_list fun x hx => by have := m1 x hx; omega
  have ne1 : ∀ x ∈ W ++ fp, x ≠ 101 := fun x hx e => by have := m1 x hx; rw [e] at this; exact absurd this (by decide)
  rcases he.2 with ⟨rfl, rfl, rfl⟩ | ⟨c, sg, hc, rfl, hsg⟩
  · rw [List.append_nil]
    exact ⟨fun x hx => by have := m1 x hx; omega, ne1, [], .inl ⟨rfl, rfl⟩, .inl ⟨l1, rfl⟩⟩
  · have m2 : ∀ x ∈ sg ++ e, x.toNat < 65 := by
      intro x hx
      rcases List.mem_append.1 hx with h | h
      · rcases esg_mem hsg x h with rfl | rfl <;> decide
      · have := dgt_mem he.1 h; omega
    refine ⟨?_, ne1, sg, hsg, .inr ?_⟩
    · intro x hx
      rcases List.mem_append.1 hx with h | h
      · have := m1 x h; omega
      · rcases List.mem_cons.1 h with rfl | h
        · rcases hc with rfl | rfl <;> decide
        · have := m2 x h; omega
    · have : Lib.toLowerA (W ++ fp ++ c :: (sg ++ e)) = Lib.toLowerA (W ++ fp) ++ Lib.lowerB c :: Lib.toLowerA (sg ++ e) := by simp [Lib.toLowerA]
      rw [this, l1, lower_list m2]
      rcases hc with rfl | rfl <;> rfl
theorem dig_ne46 {W : List UInt8} (h : W.all dgt = true) : ∀ x ∈ W, x ≠ 46 := fun x hx e => by have := dgt_mem h hx; rw [e] at this; exact absurd this (by decide)
theorem dropW_nil : ∀ {l : List UInt8}, l.dropWhile (· == 48) = [] → ∀ x ∈ l, x = 48
  | [], _, x, hx => by cases hx
  | y :: l, h, x, hx => by
    rw [List.dropWhile_cons] at h
    by_cases hy : (y == 48) = true
    · rw [if_pos hy] at h
      rcases List.mem_cons.1 hx with rfl | hx
      · simpa using hy
      · exact dropW_nil h x hx
    · rw [if_neg hy] at h; cases h
theorem mid_nil {D : List UInt8} (hD : D.all dgt = true) : mid D = [] ↔ trim D = [] := by
  constructor
  · intro h
    unfold mid Lib.trimRightB at h
    rw [List.reverse_eq_nil_iff] at h
    replace h := dropW_nil h
    cases ht : trim D with
    | nil => rfl
    | cons c r =>
      have h1 := (trim_spec D hD).2.2 c (by rw [ht]; rfl)
      have h2 := h c (by rw [ht]; simp)
      exact absurd h2 h1
  · intro h
    unfold mid
    rw [h]
    rfl
theorem sign_pre {s : ByteArray} {neg en : Bool} {W fp f ep e : List UInt8} (h : Num s.data.toList neg W fp f ep en e) :
    Lib.hasPrefix s.data.toList [45] = neg ∧ (neg = false → s.data.toList = W ++ fp ++ ep) ∧ Lib.trimPrefix s.data.toList [45] = W ++ fp ++ ep := by
  have hs := sign_at h
  obtain ⟨hl, _⟩ := h
  cases neg with
  | true =>
    have e1 : s.data.toList = 45 :: (W ++ fp ++ ep) := by rw [hl]; simp [sgn]
    rw [e1]
    exact ⟨hasPre_cons _ _, fun h => Bool.noConfusion h, trimPre_cons _ _⟩
  | false =>
    have e1 : s.data.toList = W ++ fp ++ ep := by rw [hl]; simp [sgn]
    have hp : Lib.hasPrefix s.data.toList [45] = false := by
      cases hd : s.data.toList with
      | nil => rfl
      | cons x q =>
        obtain ⟨hk, hx⟩ := byte_at (s := s) (p := []) (x := x) (q := q) hd
        rcases hs with ⟨h0, _⟩ | ⟨h0, h1⟩
        · simp at hk; omega
        · have hne : ¬ (x.toNat : Int) = 45 := by
            have : s[0] = x := hx
            rw [this] at h1
            simpa using h1
          have : ((45 : UInt8) == x) = false := by
            simp only [beq_eq_false_iff_ne, ne_eq]
            intro e
            apply hne
            rw [← e]
            rfl
          simp [Lib.hasPrefix, List.isPrefixOf, this]
    exact ⟨hp, fun _ => e1, by rw [trimPre_no hp]; exact e1⟩

/-! ### The world of ParseDecimal -/
def decW (w0 w : World) (neg : Bool) (ds : ByteArray) : Prop :=
  Below w0.heap.size w0 w ∧ w.heap[w0.heap.size]? = some (.cells #[.bool false, .string ⟨#[]⟩, .bool false, .string ⟨#[]⟩] 36 (0, 0)) ∧ w.heap[w0.heap.size + 1]? = some (.cells #[.bool neg, .string ds, .bool false, .string ⟨#[]⟩] 36 (0, 0))
theorem decW_start (w : World) (b : Bool) : decW w ((w.alloc (.cells #[.bool false, .string ⟨#[]⟩, .bool false, .string ⟨#[]⟩] 36)).alloc (.cells #[.bool b, .string ⟨#[]⟩, .bool false, .string ⟨#[]⟩] 36)) b ⟨#[]⟩ := by
  refine ⟨((Below.refl _ _).alloc (Nat.le_refl _) _).alloc (by simp) _, ?_, ?_⟩
  · rw [Below.heap_alloc _ _ _ (by simp)]; exact heap_alloc_new w _
  · have := heap_alloc_new (w.alloc (.cells #[.bool false, .string ⟨#[]⟩, .bool false, .string ⟨#[]⟩] 36)) (.cells #[.bool b, .string ⟨#[]⟩, .bool false, .string ⟨#[]⟩] 36)
    rw [show (w.alloc (.cells #[.bool false, .string ⟨#[]⟩, .bool false, .string ⟨#[]⟩] 36)).heap.size = w.heap.size + 1 by simp] at this
    exact this
theorem decW.sz {w0 w : World} {neg : Bool} {ds : ByteArray} (h : decW w0 w neg ds) : w0.heap.size + 1 < w.heap.size := (Array.getElem?_eq_some_iff.1 h.2.2).1
theorem decW.on {w0 w w1 : World} {neg : Bool} {ds : ByteArray} (h : decW w0 w neg ds) (hb : Below w.heap.size w w1) : decW w0 w1 neg ds := by
  have := h.sz
  exact ⟨h.1.trans (hb.mono h.1.size), by rw [hb.block _ (by omega)]; exact h.2.1, by rw [hb.block _ (by omega)]; exact h.2.2⟩
theorem decW.setNeg {w0 w : World} {neg : Bool} {ds : ByteArray} (h : decW w0 w neg ds) (b : Bool) : decW w0 (w.setCell ⟨w0.heap.size + 1, 0, none⟩ (.bool b)) b ds := by
  refine ⟨h.1.setCell (by show _ ≤ w0.heap.size + 1; omega) _, by rw [Below.heap_setCell _ _ _ _ (by simp)]; exact h.2.1, ?_⟩
  unfold World.setCell
  simp [Array.getElem?_modify, h.2.2]
theorem decW.setDig {w0 w : World} {neg : Bool} {ds : ByteArray} (h : decW w0 w neg ds) (d : ByteArray) : decW w0 (w.setCell ⟨w0.heap.size + 1, 1, none⟩ (.string d)) neg d := by
  refine ⟨h.1.setCell (by show _ ≤ w0.heap.size + 1; omega) _, by rw [Below.heap_setCell _ _ _ _ (by simp)]; exact h.2.1, ?_⟩
  unfold World.setCell
  simp [Array.getElem?_modify, h.2.2]
theorem decW.facts {w0 w : World} {neg : Bool} {ds : ByteArray} (h : decW w0 w neg ds) :
    (w.cell? ⟨w0.heap.size, 0, none⟩ = some (.bool false) ∧ w.cell? ⟨w0.heap.size, 1, none⟩ = some (.string ⟨#[]⟩) ∧ w.cell? ⟨w0.heap.size, 2, none⟩ = some (.bool false) ∧ w.cell? ⟨w0.heap.size, 3, none⟩ = some (.string ⟨#[]⟩)) ∧
    (w.cell? ⟨w0.heap.size + 1, 0, none⟩ = some (.bool neg) ∧ w.cell? ⟨w0.heap.size + 1, 1, none⟩ = some (.string ds) ∧ w.cell? ⟨w0.heap.size + 1, 2, none⟩ = some (.bool false) ∧ w.cell? ⟨w0.heap.size + 1, 3, none⟩ = some (.string ⟨#[]⟩)) ∧
    (∀ o, w.frozen? ⟨w0.heap.size, o, none⟩ = false) ∧ (∀ o, w.frozen? ⟨w0.heap.size + 1, o, none⟩ = false) := by
  refine ⟨⟨?_, ?_, ?_, ?_⟩, ⟨?_, ?_, ?_, ?_⟩, fun o => ?_, fun o => ?_⟩
  all_goals simp [World.cell?, World.frozen?, h.2.1, h.2.2]

/-- A Decimal. -/
def decA (neg : Bool) (W f : List UInt8) (en : Bool) (e : List UInt8) : Value :=
  if trim (W ++ f) = [] then .agg #[.bool neg, .string ⟨#[]⟩, .bool false, .string ⟨#[]⟩]
  else .agg #[.bool neg, .string ⟨(mid (W ++ f)).toArray⟩, .bool (decide (ptZ W f en e < 0)), .string (dstr (ptZ W f en e).natAbs)]
end Go.Proofs.Qxb6600768aGreatDoor
