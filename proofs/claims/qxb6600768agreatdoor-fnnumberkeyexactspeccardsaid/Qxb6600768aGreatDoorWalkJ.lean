import Derived.Test.Qxb6600768aGreatDoorWalkI
namespace Go.Proofs.Qxb6600768aGreatDoor
open Go.RowKit Go.Shelf

/-- The row of bytes beside the two blocks. -/
def plusR (w0 w : World) (s : Bool) (l : List UInt8) : Prop :=
  plusW w0 w s ∧ w0.heap.size + 2 < w.heap.size ∧ (∀ j b, l[j]? = some b → w.cell? ⟨w0.heap.size + 2, j, none⟩ = some (.int .u8 (b.toNat : Int))) ∧ ∀ j, j < l.length → w.frozen? ⟨w0.heap.size + 2, j, none⟩ = false
theorem plusR_start {w0 W : World} {s : Bool} (h : plusW w0 W s) (hB : W.heap.size = w0.heap.size + 2) (d : ByteArray) : plusR w0 (Lib.bytesWorld W 5 d) s d.data.toList := by
  have hb : Below W.heap.size W (Lib.bytesWorld W 5 d) := ⟨rfl, rfl, rfl, by rw [Lib.bytesWorld_size]; omega, fun j hj => Lib.bytesWorld_at_old W 5 d j hj⟩
  refine ⟨h.on hb, by rw [Lib.bytesWorld_size]; omega, fun j b hj => ?_, fun j hj => ?_⟩
  · rw [← hB]
    have hlt : j < d.size := by
      rcases Nat.lt_or_ge j d.size with h' | h'
      · exact h'
      · rw [List.getElem?_eq_none (by rw [size_eq_data]; exact h')] at hj; cases hj
    rw [Lib.bytesWorld_cell W 5 d j hlt, List.getD_eq_getElem?_getD, hj]
    rfl
  · rw [← hB]
    rw [size_eq_data] at hj
    unfold World.frozen?
    rw [Lib.bytesWorld_at_new]
    have : d.size ≤ (Lib.bytesCells W 5 d).size := by simp [Lib.bytesCells]
    simp
    omega
theorem plusR.set {w0 w : World} {s : Bool} {l : List UInt8} (h : plusR w0 w s l) {j : Nat} (hj : j < l.length) (b : UInt8) (x : Int) (hx : x = (b.toNat : Int)) : plusR w0 (w.setCell ⟨w0.heap.size + 2, j, none⟩ (.int .u8 x)) s (l.set j b) := by
  subst hx
  obtain ⟨⟨h1, h2, h3, h4, h5, h6, h7⟩, h8, h9, h10⟩ := h
  have ne : ∀ b' o, b' ≠ w0.heap.size + 2 → (⟨w0.heap.size + 2, j, none⟩ : Addr) ≠ ⟨b', o, none⟩ := fun b' o h e => h (by cases e; rfl)
  refine ⟨⟨h1.setCell (by show w0.heap.size ≤ w0.heap.size + 2; omega) _, by simpa using h2, ?_, ?_, ?_, ?_, ?_⟩, by simpa using h8, fun i b' hi => ?_, fun i hi => ?_⟩
  · rw [World.cell?_setCell_other (h := ne _ _ (by omega))]; exact h3
  · rw [World.cell?_setCell_other (h := ne _ _ (by omega))]; exact h4
  · rw [World.cell?_setCell_other (h := ne _ _ (by omega))]; exact h5
  · rw [World.frozen?_setCell]; exact h6
  · rw [World.frozen?_setCell]; exact h7
  · by_cases e : i = j
    · subst e
      rw [List.getElem?_set_self hj] at hi
      cases hi
      exact World.cell?_setCell_same _ _ _ (h9 i l[i] (List.getElem?_eq_getElem hj))
    · rw [List.getElem?_set_ne (fun h => e h.symm)] at hi
      rw [World.cell?_setCell_other (h := fun h => e (by cases h; rfl))]
      exact h9 i b' hi
  · rw [World.frozen?_setCell]
    exact h10 i (by simpa using hi)
theorem plusR.conv {w0 w : World} {s : Bool} {l : List UInt8} (h : plusR w0 w s l) (c n : Nat) (hn : n = l.length) : (convert 39 9 (.slice (some ⟨w0.heap.size + 2, 0, none⟩) n c)).run Tryz.prog w = .ok (.string ⟨l.toArray⟩) w := by
  subst hn
  have hB : Lib.Bytes w (w0.heap.size + 2) 0 ⟨l.toArray⟩ := fun i hi => by
    have hi' : i < l.length := by simpa [ByteArray.size] using hi
    rw [Nat.zero_add, h.2.2.1 i l[i] (List.getElem?_eq_getElem hi')]
    rfl
  have := Lib.run_convert_whole (P := Tryz.prog) w 39 5 9 Tryz.underlying39 Tryz.underlying5 Tryz.underlying9 (w0.heap.size + 2) 0 ⟨l.toArray⟩ hB c
  have e : (⟨l.toArray⟩ : ByteArray).size = l.length := by simp [ByteArray.size]
  rw [e] at this
  exact this

/-- What holds while the carry goes up. -/
def Car (N' : Int) (D l : List UInt8) (p : Nat) (c : Int) : Prop :=
  l.length = D.length ∧ l.all dgt = true ∧ p ≤ D.length ∧ l.take p = D.take p ∧ (c + (val (D.take p) : Int)) * 10 ^ (D.length - p) + (val (l.drop p) : Int) = N' ∧ -8388608 ≤ c ∧ c ≤ 8388608
theorem all_set {l : List UInt8} (h : l.all dgt = true) (j : Nat) {b : UInt8} (hb : dgt b = true) : (l.set j b).all dgt = true := by
  rw [List.all_eq_true] at h ⊢
  intro x hx
  rcases List.mem_or_eq_of_mem_set hx with h' | h'
  · exact h x h'
  · rw [h']; exact hb
theorem Car.start {D : List UInt8} (h : D.all dgt = true) (n' : Int) (h1 : -4194304 ≤ n') (h2 : n' ≤ 4194304) : Car ((val D : Int) + n') D D D.length n' := by
  refine ⟨rfl, h, Nat.le_refl _, rfl, ?_, by omega, by omega⟩
  rw [List.take_length, Nat.sub_self, List.drop_length, val_nil]
  simp
  omega
theorem Car.step {N' : Int} {D l : List UInt8} {p : Nat} {c x c' : Int} {dg : Nat} (h : Car N' D l (p + 1) c) (hl : p < l.length) (hx : x = (dv l[p] : Int) + c) (hdg : dg < 10) (he : x = 10 * c' + dg) : Car N' D (l.set p (UInt8.ofNat (48 + dg))) p c' := by
  obtain ⟨h1, h2, h3, h4, h5, h6, h7⟩ := h
  have hdv : dv l[p] < 10 := dv_lt (List.all_eq_true.1 h2 _ (List.getElem_mem _))
  have hp : p < D.length := by omega
  have h4' : l.take p = D.take p := by
    have := congrArg (List.take p) h4
    rw [List.take_take, List.take_take, Nat.min_eq_left (by omega)] at this
    exact this
  have hlp : D[p] = l[p] := by
    have a1 : (l.take (p + 1))[p]? = some l[p] := by rw [List.getElem?_take, if_pos (by omega), List.getElem?_eq_getElem hl]
    rw [h4, List.getElem?_take, if_pos (by omega), List.getElem?_eq_getElem hp] at a1
    exact Option.some.inj a1
  refine ⟨by simpa using h1, all_set h2 p (dgt_ofNat hdg), by omega, ?_, ?_, by omega, by omega⟩
  · rw [List.take_set_of_le (Nat.le_refl _)]; exact h4'
  · have e1 : D.take (p + 1) = D.take p ++ [l[p]] := by rw [List.take_succ_eq_append_getElem hp, hlp]
    have e2 : (l.set p (UInt8.ofNat (48 + dg))).drop p = UInt8.ofNat (48 + dg) :: l.drop (p + 1) := by
      rw [List.drop_eq_getElem_cons (by simpa using hl), List.getElem_set_self, List.drop_set_of_lt (by omega)]
    rw [e2, val_cons, dv_ofNat hdg, List.length_drop]
    rw [e1, val_snoc] at h5
    have e3 : D.length - p = (D.length - (p + 1)) + 1 := by omega
    rw [e3, Int.pow_succ, h1]
    rw [← h5]
    push_cast
    generalize (10 : Int) ^ (D.length - (p + 1)) = T
    have hc : c + ((val (List.take p D) : Int) * 10 + (dv l[p] : Int)) = 10 * c' + dg + 10 * (val (List.take p D) : Int) := by omega
    rw [hc]
    generalize (val (List.take p D) : Int) = V
    have e5 : (10 * c' + (dg : Int) + 10 * V) * T = 10 * (c' * T) + dg * T + 10 * (V * T) := by
      rw [Int.add_mul, Int.add_mul, Int.mul_assoc, Int.mul_assoc]
    have e6 : (c' + V) * (T * 10) = 10 * (c' * T) + 10 * (V * T) := by
      rw [← Int.mul_assoc, Int.add_mul, Int.mul_comm _ 10, Int.mul_add]
    rw [e5, e6]
    omega
/-- The carry is used up. -/
theorem Car.zero {N' : Int} {D l : List UInt8} {p : Nat} (h : Car N' D l p 0) : (val l : Int) = N' ∧ l.all dgt = true := by
  obtain ⟨h1, h2, h3, h4, h5, _⟩ := h
  refine ⟨?_, h2⟩
  rw [← h5, ← h4]
  conv => lhs; rw [← List.take_append_drop p l, val_append, List.length_drop, h1]
  push_cast
  rw [Int.zero_add]
/-- No digit is left. -/
theorem Car.last {N' c : Int} {D l : List UInt8} (h : Car N' D l 0 c) (hN : 0 ≤ N') : 0 ≤ c ∧ c * 10 ^ D.length + (val l : Int) = N' ∧ l.all dgt = true ∧ l.length = D.length := by
  obtain ⟨h1, h2, h3, h4, h5, _⟩ := h
  rw [List.take_zero, val_nil, List.drop_zero, Nat.sub_zero] at h5
  have h6 : c * 10 ^ D.length + (val l : Int) = N' := by simpa using h5
  refine ⟨?_, h6, h2, h1⟩
  by_cases hc : c < 0
  · exfalso
    have h7 := val_lt h2
    rw [h1] at h7
    have h8 : (val l : Int) < 10 ^ D.length := by exact_mod_cast h7
    have h9 : (c + 1) * 10 ^ D.length ≤ 0 * 10 ^ D.length := Int.mul_le_mul_of_nonneg_right (by omega) (Int.le_of_lt (Int.pow_pos (by decide)))
    rw [Int.add_mul, Int.one_mul, Int.zero_mul] at h9
    omega
  · omega

theorem plus_dc (w : World) (s : Bool) (d : ByteArray) : ((w.alloc (.cells #[.bool s, .string d] 34)).alloc (.cells #[.bool false, .string ⟨#[]⟩] 34)).cell? ⟨w.heap.size, 1, none⟩ = some (.string d) := by go_simp
theorem neg_col {X : Int} (h1 : -16777216 ≤ X) (h2 : X < 0) : ∃ (c' : Int) (dg : Nat), dg < 10 ∧ X = 10 * c' + dg ∧ wrap64 ((wrap64 (X - (wrap64 (X.tmod 10 + 10)).tmod 10)).tdiv 10) = c' ∧ wrap64 (48 + (wrap64 (X.tmod 10 + 10)).tmod 10) % 256 = 48 + (dg : Int) := by
  obtain ⟨Y, hY⟩ : ∃ Y : Nat, X = -(Y : Int) := ⟨X.natAbs, by omega⟩
  have e1 : X.tmod 10 = -((Y % 10 : Nat) : Int) := by rw [hY, Int.neg_tmod]; rfl
  have w : ∀ z : Int, -9223372036854775808 ≤ z → z < 9223372036854775808 → wrap64 z = z := fun z a b => by unfold wrap64; omega
  obtain ⟨t, ht⟩ : ∃ t : Nat, 10 - Y % 10 = t := ⟨_, rfl⟩
  have e2 : X.tmod 10 + 10 = (t : Int) := by omega
  have e3 : ((t : Int)).tmod 10 = ((t % 10 : Nat) : Int) := rfl
  rw [e2, w (t : Int) (by omega) (by omega), e3]
  refine ⟨(X - ((t % 10 : Nat) : Int)) / 10, t % 10, by omega, by omega, ?_, ?_⟩
  · rw [w (X - _) (by omega) (by omega)]
    obtain ⟨c, hc⟩ : ∃ c : Int, X - ((t % 10 : Nat) : Int) = 10 * c := ⟨(X - ((t % 10 : Nat) : Int)) / 10, by omega⟩
    rw [hc, Int.mul_tdiv_cancel_left c (by decide), w c (by omega) (by omega)]
    omega
  · rw [w (48 + _) (by omega) (by omega)]
    omega
theorem trimLeftB_any (t : ByteArray) (w : World) :
    Calls Tryz.prog 30 #[.string t, .string ⟨#[48]⟩] w fun e w' => e = .returned (.string ⟨(trim t.data.toList).toArray⟩) ∧ w' = w :=
  Any.strings_TrimLeft_one Tryz.lays161 t 48 (by decide) w
/-- What the loop leaves. -/
def Left (N' : Int) (L : Nat) (c : Int) (l : List UInt8) : Prop :=
  l.length = L ∧ l.all dgt = true ∧ c ≤ 8388608 ∧ 0 ≤ c ∧ c * 10 ^ L + (val l : Int) = N'
theorem Car.leftZ {N' : Int} {D l : List UInt8} {p : Nat} (h : Car N' D l p 0) : Left N' D.length 0 l := by
  obtain ⟨h1, h2⟩ := h.zero
  exact ⟨h.1, h2, by decide, by decide, by rw [Int.zero_mul, Int.zero_add]; exact h1⟩
theorem Car.leftE {N' c : Int} {D l : List UInt8} (h : Car N' D l 0 c) (hN : 0 ≤ N') : Left N' D.length c l := by
  obtain ⟨h1, h2, h3, h4⟩ := h.last hN
  exact ⟨h4, h3, h.2.2.2.2.2.2, h1, h2⟩

set_option maxRecDepth 20000 in
set_option maxHeartbeats 2000000 in
theorem plus_big (I n : Int) (w : World) (hn1 : -4194304 ≤ n) (hn2 : n ≤ 4194304) (hI : 18 < (dstr I.natAbs).size) (hsz : (dstr I.natAbs).size ≤ 4294967295) (ht : Tab w) :
    Calls Tryz.prog 33 #[sgA I, .int .i64 n] w fun x w' => x = .returned (sgA (I + n)) ∧ Below w.heap.size w w' := by
  have HTb := hid ht
  clear ht
  have hbig : 1000000000000000000 ≤ I.natAbs := by
    rw [dstr_size] at hI
    obtain ⟨k, hk⟩ : ∃ k, (digs I.natAbs).length = k + 1 := ⟨_, (Nat.sub_add_cancel (by omega)).symm⟩
    have h1 := pow_le_of_digs hk
    have h2 : 10 ^ 18 ≤ 10 ^ k := Nat.pow_le_pow_right (by decide) (by omega)
    omega
  obtain ⟨d, hd⟩ : ∃ d, dstr I.natAbs = d := ⟨_, rfl⟩
  obtain ⟨s, hs⟩ : ∃ s : Bool, decide (I < 0) = s := ⟨_, rfl⟩
  obtain ⟨n', hn'⟩ : ∃ n' : Int, (if s then -n else n) = n' := ⟨_, rfl⟩
  have hb1 : -4194304 ≤ n' := by rw [← hn']; split <;> omega
  have hb2 : n' ≤ 4194304 := by rw [← hn']; split <;> omega
  have HR : Hid (∀ T : List UInt8, T.all dgt = true → (val T : Int) = (I.natAbs : Int) + n' → sgA (I + n) = .agg #[.bool s, .string ⟨(trim T).toArray⟩]) := hid (by
    intro T hT hv
    rw [trim_dstr hT]
    symm
    apply sgA_eq
    · rw [← hs]
      by_cases h : I < 0
      · rw [decide_eq_true h, decide_eq_true (by omega)]
      · rw [decide_eq_false h, decide_eq_false (by omega)]
    · rw [← hn', ← hs] at hv
      by_cases h : I < 0
      · rw [decide_eq_true h, if_pos rfl] at hv; omega
      · rw [decide_eq_false h, if_neg (by simp)] at hv; omega)
  have HCar : Hid (Car ((I.natAbs : Int) + n') d.data.toList d.data.toList d.size n') := hid (by
    have := Car.start (D := d.data.toList) (by rw [← hd]; exact digs_dgt _) n' hb1 hb2
    rw [size_eq_data] at this
    rw [show (val d.data.toList : Int) = (I.natAbs : Int) by rw [← hd, dstr_data, val_digs]] at this
    exact this)
  have HNN : Hid (0 ≤ (I.natAbs : Int) + n') := hid (by omega)
  rw [show sgA I = .agg #[.bool s, .string d] by unfold sgA; rw [hd, hs]]
  rw [hd] at hI hsz
  have HN' := hid hn'
  have hI2 : ¬ d.size ≤ 18 := by omega
  have hI3 : decide (d.size ≤ 18) = false := decide_eq_false hI2
  obtain ⟨W0, hW0⟩ : ∃ W0, ((w.alloc (.cells #[.bool s, .string d] 34)).alloc (.cells #[.bool false, .string ⟨#[]⟩] 34)) = W0 := ⟨_, rfl⟩
  have HP0 : Hid (plusW w W0 s) := hid (by rw [← hW0]; exact plusW_start w s d)
  have HW0s : Hid (W0.heap.size = w.heap.size + 2) := hid (by rw [← hW0]; simp)
  have hconv := Lib.run_convert_string_bytes (P := Tryz.prog) W0 9 39 5 d Tryz.underlying9 Tryz.underlying39 Tryz.underlying5
  rw [HW0s.out] at hconv
  obtain ⟨w1, hw1⟩ : ∃ w1, Lib.bytesWorld W0 5 d = w1 := ⟨_, rfl⟩
  obtain ⟨cap, hcap⟩ : ∃ cap, grownCap W0 d.size 0 5 = cap := ⟨_, rfl⟩
  have HR1 : Hid (plusR w w1 s d.data.toList) := hid (by rw [← hw1]; exact plusR_start HP0.out HW0s.out d)
  rw [hw1, hcap] at hconv
  have HDC : Hid (W0.cell? ⟨w.heap.size, 1, none⟩ = some (.string d)) := hid (by rw [← hW0]; exact plus_dc w s d)
  have HW0 := hid hW0
  clear hw1 hcap hd hs hn' hbig hW0
  go_enter Tryz.func33, Tryz.ntmps33
  go_upto_if 29 with fail
  go_cut [1] (fun nv wc => nv = .int .i64 n' ∧ wc = W0)
  case first =>
    cases s with
    | true =>
      go_wp2
      go_meet
      case rel => exact ⟨by rw [← HN'.out]; rfl, HW0.out⟩
    | false =>
      go_wp2
      go_meet
      case rel => exact ⟨by rw [← HN'.out]; rfl, HW0.out⟩
  case rest =>
    obtain ⟨rfl, hwc⟩ := hcut
    subst hwc
    have hdc := HDC.out
    go_upto_block 0 with fail
    go_cut [8, 9] (fun cv _ wc => ∃ (c : Int) (l : List UInt8), cv = .int .i64 c ∧ plusR w wc s l ∧ Left ((I.natAbs : Int) + n') d.size c l)
    case first =>
      clear hdc hconv HDC HW0 HP0 HW0s
      go_wp2_with fail
      go_loopw [8, 9] (fun cv kv wr => ∃ (p : Nat) (c kz : Int) (l : List UInt8), cv = .int .i64 c ∧ kv = .int .i64 kz ∧ kz = (p : Int) - 1 ∧ plusR w wr s l ∧ Car ((I.natAbs : Int) + n') d.data.toList l p c) (fun _ kv _ => (intOf kv + 1).toNat)
      case atStart => exact ⟨d.size, n', _, _, rfl, rfl, rfl, HR1.out, HCar.out⟩
      case round =>
        obtain ⟨p, c, kz, l, rfl, rfl, hkz, hr, hcar⟩ := hrel
        have HRr := hid hr
        have HC := hid hcar
        clear hr hcar HR1 HCar
        have HLen : Hid (d.data.toList.length = d.size) := hid (size_eq_data d)
        cases p with
        | zero =>
          obtain rfl : kz = -1 := by omega
          clear hkz
          go_wp2
          go_meet
          case rel => exact ⟨c, l, rfl, HRr.out, by have := HC.out.leftE HNN.out; rw [HLen.out] at this; exact this⟩
        | succ q =>
          obtain rfl : kz = (q : Int) := by omega
          clear hkz
          by_cases hc0 : c = 0
          · subst hc0
            go_wp2
            go_meet
            case rel => exact ⟨0, l, rfl, HRr.out, by have := HC.out.leftZ; rw [HLen.out] at this; exact this⟩
          · have hcb : (c != 0) = true := by simpa using hc0
            have hll : l.length = d.size := by rw [HC.out.1, HLen.out]
            have hql : q < l.length := by have := HC.out.2.2.1; rw [HLen.out] at this; omega
            have hqd : q < d.size := by omega
            have hdv := dgt_iff.1 (List.all_eq_true.1 HC.out.2.1 l[q] (List.getElem_mem hql))
            have hcell := HRr.out.2.2.1 q l[q] (List.getElem?_eq_getElem hql)
            have hfroz := HRr.out.2.2.2 q hql
            obtain ⟨v, hv⟩ : ∃ v : Int, (l[q].toNat : Int) = v := ⟨_, rfl⟩
            rw [hv] at hcell
            have v1 : 48 ≤ v := by omega
            have v2 : v ≤ 57 := by omega
            have c1 : -8388608 ≤ c := HC.out.2.2.2.2.2.1
            have c2 : c ≤ 8388608 := HC.out.2.2.2.2.2.2
            have HV : Hid (v - 48 = (dv l[q] : Int)) := hid (by rw [← hv]; unfold dv; omega)
            clear hdv hv hll
            by_cases hx : 0 ≤ v - 48 + c
            · obtain ⟨c', hc'⟩ : ∃ c' : Int, (v - 48 + c - (v - 48 + c) % 10) / 10 = c' := ⟨_, rfl⟩
              obtain ⟨dg, hdg⟩ : ∃ dg : Nat, (v - 48 + c) % 10 = (dg : Int) := ⟨((v - 48 + c) % 10).toNat, by omega⟩
              have HC2 := hid (HC.out.step (x := v - 48 + c) (c' := c') (dg := dg) hql (by rw [HV.out]) (by omega) (by omega))
              have HR2 := hid (HRr.out.set hql (UInt8.ofNat (48 + dg)) (48 + (v - 48 + c) % 10) (by rw [ofNat_dig (by omega)]; omega))
              have HC' := hid hc'
              clear hc' hdg
              go_wp2
              go_roundw
              case rel => exact ⟨q, c', _, _, by rw [HC'.out], rfl, rfl, HR2.out, HC2.out⟩
              case measure => first | (simp [intOf]; done) | (simp [intOf]; omega)
            · obtain ⟨c', dg, hdg, hX, hw1, hw2⟩ := neg_col (X := v - 48 + c) (by omega) (by omega)
              have HC2 := hid (HC.out.step (x := v - 48 + c) (c' := c') (dg := dg) hql (by rw [HV.out]) hdg hX)
              have HR2 := hid (HRr.out.set hql (UInt8.ofNat (48 + dg)) (wrap64 (48 + (wrap64 ((v - 48 + c).tmod 10 + 10)).tmod 10) % 256) (by rw [ofNat_dig hdg, hw2]; omega))
              have HW1 := hid hw1
              clear hw1 hw2 hX hdg
              go_wp2
              go_roundw
              case rel => exact ⟨q, c', _, _, by rw [HW1.out], rfl, rfl, HR2.out, HC2.out⟩
              case measure => first | (simp [intOf]; done) | (simp [intOf]; omega)
    case rest =>
      obtain ⟨c, l, rfl, hr, hl⟩ := hcut
      obtain ⟨hl1, hl2, hl3, hl4, hl5⟩ := hl
      have HRr := hid hr
      have HL2 := hid hl2
      have HL5 := hid hl5
      have HL1 := hid hl1
      have hcv := HRr.out.conv cap d.size hl1.symm
      clear hr hl2 hl5 hl1 hdc hconv HDC HW0 HP0 HW0s HR1 HCar
      by_cases hc : 0 < c
      · have HT : Hid (sgA (I + n) = .agg #[.bool s, .string ⟨(trim (Lib.itoa c ++ l)).toArray⟩]) := hid (by
          refine HR.out _ ?_ ?_
          · rw [itoa_parts, decide_eq_false (by omega), List.all_append, List.all_append, HL2.out, (dec_spec _).1]; rfl
          · rw [val_append, itoa_parts, decide_eq_false (by omega), HL1.out, ← HL5.out]
            show (((val (Lib.decDigits c.natAbs)) * 10 ^ d.size + val l : Nat) : Int) = _
            rw [(dec_spec _).2.1]
            push_cast
            rw [show ((c.natAbs : Nat) : Int) = c by omega])
        have hfit : ¬ 9223372036854775807 < (⟨(Lib.itoa c).toArray⟩ : ByteArray).size + (⟨l.toArray⟩ : ByteArray).size := by
          rw [Lib.size_mk, Lib.size_mk, HL1.out, itoa_parts, decide_eq_false (by omega), dec_digs (by omega)]
          have := digs_len_le (n := c.natAbs) (k := 8) (by omega)
          show ¬ _ < (digs c.natAbs).length + _
          omega
        go_wp2_with fail
        refine (formatInt_any c (by omega) (by omega) _ (tabOn HTb.out HRr.out.1.1)).mono ?_
        rintro x w3 ⟨rfl, hb3⟩
        have HP3 := hid (HRr.out.1.on hb3)
        clear hb3 HRr hcv
        obtain ⟨T, hT⟩ : ∃ T, (⟨(Lib.itoa c).toArray⟩ : ByteArray) ++ (⟨l.toArray⟩ : ByteArray) = T := ⟨_, rfl⟩
        have HT2 : Hid (T.data.toList = Lib.itoa c ++ l) := hid (by rw [← hT]; simp)
        obtain ⟨k1, k2, k3, k4, k5, k6, k7⟩ := HP3.out
        have HB := hid k1
        clear k1 HP3
        go_wp2
        go_region_with (refine (trimLeftB_any _ _).mono ?_; rintro x w4 ⟨rfl, rfl⟩)
        all_goals
          go_wp2
          exact bodyPost_ret (v := .agg #[.bool s, .string ⟨(trim T.data.toList).toArray⟩]) (by simp [results, Tryz.results33, go_sem, k4, k5]) rfl ⟨by rw [HT.out, HT2.out], (HB.out.drew.setCell (by simp) _).setCell (by simp) _⟩
      · obtain rfl : c = 0 := by omega
        have HT : Hid (sgA (I + n) = .agg #[.bool s, .string ⟨(trim l).toArray⟩]) := hid (by
          refine HR.out _ HL2.out ?_
          have := HL5.out
          rw [Int.zero_mul, Int.zero_add] at this
          exact this)
        obtain ⟨T, hT⟩ : ∃ T, (⟨l.toArray⟩ : ByteArray) = T := ⟨_, rfl⟩
        have HT2 : Hid (T.data.toList = l) := hid (by rw [← hT])
        rw [hT] at hcv
        obtain ⟨k1, k2, k3, k4, k5, k6, k7⟩ := HRr.out.1
        have HB := hid k1
        clear k1 hT HRr
        go_wp2
        go_region_with (refine (trimLeftB_any _ _).mono ?_; rintro x w4 ⟨rfl, rfl⟩)
        all_goals
          go_wp2
          exact bodyPost_ret (v := .agg #[.bool s, .string ⟨(trim T.data.toList).toArray⟩]) (by simp [results, Tryz.results33, go_sem, k4, k5]) rfl ⟨by rw [HT.out, HT2.out], (HB.out.drew.setCell (by simp) _).setCell (by simp) _⟩

theorem plus_any (I n : Int) (w : World) (hn1 : -4194304 ≤ n) (hn2 : n ≤ 4194304) (hsz : (dstr I.natAbs).size ≤ 4294967295) (ht : Tab w) :
    Calls Tryz.prog 33 #[sgA I, .int .i64 n] w fun x w' => x = .returned (sgA (I + n)) ∧ Below w.heap.size w w' := by
  by_cases h : (dstr I.natAbs).size ≤ 18
  · exact plus_small I n w hn1 hn2 h ht
  · exact plus_big I n w hn1 hn2 (by omega) hsz ht
end Go.Proofs.Qxb6600768aGreatDoor
