import Derived.Test.Qxb6600768aGreatDoorWalkC
namespace Go.Proofs.Qxb6600768aGreatDoor
open Go.RowKit Go.Shelf

theorem digs_len_le {n k : Nat} (h : n < 10 ^ k) : (digs n).length ≤ k := by
  cases hl : (digs n).length with
  | zero => omega
  | succ j =>
    have h1 := pow_le_of_digs hl
    have h2 : ¬ k ≤ j := fun hkj => by
      have := Nat.pow_le_pow_right (n := 10) (by decide) hkj
      omega
    omega

/-- An array on the heap while it is filled from its end. -/
def filledA (w : World) (B : Nat) (suf : List UInt8) (w0 : World) : Prop :=
  Below B w0 w ∧ ∃ pre : List Value, pre.length + suf.length = 20 ∧ w.ownsRow B 42 1 (.slice (some ⟨B, 0, none⟩) 20 20) 20 (pre ++ bcells suf)
theorem filledA_start (w : World) (cs : Array Value) (h : cs.size = 20) : filledA (w.alloc (.cells cs 42)) w.heap.size [] w :=
  ⟨(Below.refl _ _).alloc (Nat.le_refl _) _, cs.toList, by simpa using h, by simpa [bcells] using World.ownsRow_lit (base := w.heap.size) (e := 42) (size := 1) w cs 20 (Nat.le_refl _) (by unfold maxLen; omega) (by omega)⟩
theorem filledA_cell {w w0 : World} {B j : Nat} {suf : List UInt8} (h : filledA w B suf w0) (hk : j < 20) : ∃ v, w.cell? ⟨B, j, none⟩ = some v ∧ w.frozen? ⟨B, j, none⟩ = false := by
  obtain ⟨_, pre, hp, ho⟩ := h
  have := ho.cellAt j (by omega)
  rw [List.getElem?_eq_getElem (by simp [bcells]; omega)] at this
  exact ⟨_, this, ho.frozenAt _⟩
theorem filledA_store {w w0 : World} {B j d : Nat} {suf : List UInt8} (h : filledA w B suf w0) (hj : j + suf.length = 19) (hd : d < 10) (x : Int) (hx : x = 48 + d) : filledA (w.setCell ⟨B, j, none⟩ (.int .u8 x)) B (UInt8.ofNat (48 + d) :: suf) w0 := by
  obtain ⟨hb, pre, hp, ho⟩ := h
  refine ⟨hb.setCell (Nat.le_refl _) _, pre.dropLast, by simp; omega, ?_⟩
  have := (ho.stored j (.int .u8 x)).1
  have e : (pre ++ bcells suf).set j (.int .u8 x) = pre.dropLast ++ bcells (UInt8.ofNat (48 + d) :: suf) := by
    have hne : pre ≠ [] := by intro e; rw [e] at hp; simp at hp; omega
    have h1 : pre = pre.dropLast ++ [pre.getLast hne] := (List.dropLast_concat_getLast hne).symm
    have hl : pre.dropLast.length = j := by simp; omega
    rw [List.set_append_left _ _ (by omega)]
    conv => lhs; rw [h1]
    rw [List.set_append_right _ _ (by omega), hl, Nat.sub_self]
    unfold bcells
    rw [List.map_cons, ofNat_dig hd, hx]
    simp
  rw [e] at this
  exact this
theorem filledA_done {w w0 : World} {B j : Nat} {suf : List UInt8} (h : filledA w B suf w0) (hj : j + suf.length = 20) (n c : Nat) (hn : n = suf.length) : (convert 39 9 (.slice (some ⟨B, j, none⟩) n c)).run Tryz.prog w = .ok (.string ⟨suf.toArray⟩) w := by
  subst hn
  obtain ⟨_, pre, hp, ho⟩ := h
  have hB : Lib.Bytes w B j ⟨suf.toArray⟩ := fun i hi => by
    have hi' : i < suf.length := by simpa [ByteArray.size] using hi
    rw [ho.cellAt (j + i) (by omega), List.getElem?_append_right (by omega)]
    unfold bcells
    rw [List.getElem?_map, show j + i - pre.length = i by omega, List.getElem?_eq_getElem hi']
    rfl
  have := Lib.run_convert_whole (P := Tryz.prog) w 39 5 9 Tryz.underlying39 Tryz.underlying5 Tryz.underlying9 B j ⟨suf.toArray⟩ hB c
  have e : (⟨suf.toArray⟩ : ByteArray).size = suf.length := by simp [ByteArray.size]
  rw [e] at this
  exact this

theorem filledA_drew {w w0 : World} {B : Nat} {suf : List UInt8} (h : filledA w B suf w0) : filledA w.drew B suf w0 := ⟨h.1.drew, h.2⟩
theorem slice42 (W : World) (B k : Nat) (hk : k ≤ 20) :
    (Instr.sliceAt 42 (.pointer (some ⟨B, 0, none⟩)) (some (.int .i64 k)) none none).run Tryz.prog W = .ok (.slice (some ⟨B, if k = 20 then 0 else k, none⟩) (20 - k) (20 - k)) W := by
  have hal : Tryz.prog.arrayLen 42 = 20 := by simp [Program.arrayLen, Tryz.underlying42]
  rw [run_sliceAt_array_l W 42 ⟨B, 0, none⟩ (by simp [Program.arrayLen, Program.elem, Tryz.underlying42]) .i64 (k : Int) (by omega) (by rw [hal]; omega)]
  obtain ⟨i5, hi5, hz0, hz1, hz2⟩ := info_parts info5
  have he : Tryz.prog.elem 42 = 5 := by simp [Program.elem, Tryz.underlying42]
  have hsz : (sizeOf 5).run Tryz.prog W = .ok 1 W := by simp [sizeOf, typeInfo, hi5, hz1]
  rw [he, hsz, hal]
  by_cases h : k = 20
  · subst h; simp [slicedAt, Result.andThen]
  · have h20 : ¬ 20 = k := fun e => h e.symm
    simp [slicedAt, Result.andThen, Addr.add, h, h20]
    exact fun e => e.symm
theorem filledA_end {w w0 : World} {B k : Nat} {suf : List UInt8} (h : filledA w B suf w0) (hk : k + suf.length = 20) : (convert 39 9 (.slice (some ⟨B, if k = 20 then 0 else k, none⟩) (20 - k) (20 - k))).run Tryz.prog w = .ok (.string ⟨suf.toArray⟩) w := by
  by_cases h20 : k = 20
  · obtain rfl : suf = [] := List.length_eq_zero_iff.1 (by omega)
    subst h20
    have := Lib.run_convert_whole (P := Tryz.prog) w 39 5 9 Tryz.underlying39 Tryz.underlying5 Tryz.underlying9 B 0 ByteArray.empty (fun i hi => by simp at hi) 0
    exact this
  · rw [if_neg h20]
    exact filledA_done h hk _ _ (by omega)

set_option maxRecDepth 20000 in
set_option maxHeartbeats 2000000 in
theorem itoa_any (n : Int) (w : World) (h1 : -4294967296 ≤ n) (h2 : n ≤ 4294967296) :
    Calls Tryz.prog 13 #[.int .i64 n] w fun e w' => e = .returned (.tuple #[.bool (decide (n < 0)), .string ⟨(digs n.natAbs).toArray⟩]) ∧ Below w.heap.size w w' := by
  go_enter Tryz.func13, Tryz.ntmps13
  go_upto_if 10 with fail
  go_cut [4, 5] (fun sv mv wc => sv = .bool (decide (n < 0)) ∧ mv = .int .u64 (n.natAbs : Int) ∧ w = wc)
  case first =>
    by_cases hlt : n < 0
    · go_wp2
      go_meet
      case rel => exact ⟨rfl, by rw [show -(n + 1) + 1 = (n.natAbs : Int) by omega], rfl⟩
    · go_wp2
      go_meet
      case rel => exact ⟨rfl, by rw [show n = (n.natAbs : Int) by omega]; rfl, rfl⟩
  case rest =>
    obtain ⟨rfl, rfl, hwc⟩ := hcut
    subst hwc
    obtain ⟨N, hN⟩ : ∃ N : Nat, n.natAbs = N := ⟨_, rfl⟩
    rw [hN]
    have hN2 : N ≤ 4294967296 := by omega
    obtain ⟨s, hs⟩ : ∃ s : Bool, decide (n < 0) = s := ⟨_, rfl⟩
    rw [hs]
    have HN := hid hN
    have HS := hid hs
    clear hN hs
    go_wp2_with fail
    go_loopw [5, 7] (fun mv kv wr => ∃ (m k : Nat) (suf : List UInt8), mv = .int .u64 m ∧ kv = .int .i64 k ∧ k + suf.length = 20 ∧ m ≤ 4294967296 ∧ filledA wr w.heap.size suf w ∧ digs N = digs m ++ suf) (fun mv _ _ => (intOf mv).toNat)
    case atStart => exact ⟨N, 20, [], rfl, rfl, rfl, hN2, filledA_start w _ rfl, by simp⟩
    case round =>
      obtain ⟨m, k, suf, rfl, rfl, hk, hm, hf, hI⟩ := hrel
      have HF := hid hf
      have HI := hid hI
      clear hf hI
      by_cases hlt : 0 < m
      · have hkk : 1 ≤ k := by
          have h3 := HI.out
          rw [digs_step (n := m) (by omega)] at h3
          have h4 := congrArg List.length h3
          have h5 := digs_len_le (n := N) (k := 10) (by omega)
          simp only [List.length_append, List.length_singleton] at h4
          omega
        obtain ⟨j, rfl⟩ : ∃ j, k = j + 1 := ⟨k - 1, by omega⟩
        obtain ⟨v, hcell, hfroz⟩ := filledA_cell HF.out (j := j) (by omega)
        have HR := hid (filledA_store HF.out (j := j) (d := m % 10) (by omega) (Nat.mod_lt _ (by decide)) (48 + (m : Int) % 10) (by omega))
        have HI2 : Hid (digs N = digs (m / 10) ++ (UInt8.ofNat (48 + m % 10) :: suf)) := hid (by rw [HI.out, digs_step (n := m) (by omega), List.append_assoc]; rfl)
        have e1 : ((j : Int) + 1 - 1) = j := by omega
        have e2 : ((j + 1 : Nat) : Int) - 1 = j := by omega
        go_wp2
        go_roundw
        case rel => exact ⟨m / 10, j, _, rfl, rfl, by simp only [List.length_cons]; omega, by omega, HR.out, HI2.out⟩
        case measure => simp [intOf]; omega
      · obtain rfl : m = 0 := by omega
        have hk20 : k ≤ 20 := by omega
        have hsl := slice42 wr.drew w.heap.size k hk20
        have hcv := filledA_end (filledA_drew HF.out) hk
        obtain ⟨ad, had⟩ : ∃ ad : Addr, (⟨w.heap.size, if k = 20 then 0 else k, none⟩ : Addr) = ad := ⟨_, rfl⟩
        rw [had] at hsl hcv
        clear had
        have HR : Hid (digs N = suf) := hid (by rw [HI.out]; rfl)
        go_wp2
        go_region
        go_wp2
        go_ret2
        exact ⟨by rw [HN.out, HS.out, HR.out]; rfl, HF.out.1.drew⟩

/-- The canonical digits as a string. -/
def dstr (n : Nat) : ByteArray := ⟨(digs n).toArray⟩
theorem dstr_data (n : Nat) : (dstr n).data.toList = digs n := rfl
theorem dstr_size (n : Nat) : (dstr n).size = (digs n).length := by rw [← size_eq_data, dstr_data]
theorem dstr_zero : dstr 0 = ByteArray.empty := rfl
theorem dstr_ne {n : Nat} (h : n ≠ 0) : dstr n ≠ ByteArray.empty := fun e => h (digs_nil.1 (by rw [← dstr_data, e]; rfl))
theorem digs_len_mono {a b : Nat} (h : a ≤ b) : (digs a).length ≤ (digs b).length := by
  rcases Nat.lt_or_ge (digs b).length (digs a).length with h1 | h1
  · have := cmp_len_lt h1; omega
  · exact h1
theorem add_any (a b : Nat) (w : World) (ha : (dstr a).size ≤ 4294967295) (hb : (dstr b).size ≤ 4294967295) :
    Calls Tryz.prog 23 #[.string (dstr a), .string (dstr b)] w fun e w' => e = .returned (.string (dstr (a + b))) ∧ Below w.heap.size w w' := by
  have := addMag_any (dstr a) (dstr b) w (digs_dgt a) (digs_dgt b) ha hb
  rw [dstr_data, dstr_data, val_digs, val_digs] at this
  exact this
theorem sub_any (a b : Nat) (w : World) (ha : (dstr a).size ≤ 4294967295) (hle : b ≤ a) :
    Calls Tryz.prog 25 #[.string (dstr a), .string (dstr b)] w fun e w' => e = .returned (.string (dstr (a - b))) ∧ Below w.heap.size w w' := by
  have hl : (dstr b).size ≤ (dstr a).size := by rw [dstr_size, dstr_size]; exact digs_len_mono hle
  have := subMag_any (dstr a) (dstr b) w (digs_dgt a) (digs_dgt b) ha (by omega) hl (by rw [dstr_data, dstr_data, val_digs, val_digs]; exact hle)
  rw [dstr_data, dstr_data, val_digs, val_digs] at this
  exact this
theorem cmp_any (a b : Nat) (w : World) (ha : (dstr a).size ≤ 4294967295) :
    Calls Tryz.prog 24 #[.string (dstr a), .string (dstr b)] w fun e w' => e = .returned (.int .i64 (cmpI a b)) ∧ Below w.heap.size w w' :=
  cmpMag_any (dstr a) (dstr b) a b w rfl rfl (by omega)

/-- The two results of an integer: sign and digits. -/
def sgT (z : Int) : Value := .tuple #[.bool (decide (z < 0)), .string (dstr z.natAbs)]
theorem sgT_eq {z : Int} {s : Bool} {n : Nat} (h1 : decide (z < 0) = s) (h2 : z.natAbs = n) : Value.tuple #[.bool s, .string (dstr n)] = sgT z := by unfold sgT; rw [h1, h2]

set_option maxRecDepth 20000 in
set_option maxHeartbeats 1000000 in
theorem signedAdd_any (an bn : Bool) (a b : Nat) (w : World) (ha : (dstr a).size ≤ 4294967295) (hb : (dstr b).size ≤ 4294967295) :
    Calls Tryz.prog 14 #[.bool an, .string (dstr a), .bool bn, .string (dstr b)] w fun e w' => e = .returned (sgT (sv an a + sv bn b)) ∧ Below w.heap.size w w' := by
  by_cases hs : an = bn
  · subst hs
    by_cases h0 : a + b = 0
    · have HR : Hid (sgT (sv an a + sv an b) = .tuple #[.bool false, .string (dstr (a + b))]) := hid (by
        obtain ⟨rfl, rfl⟩ : a = 0 ∧ b = 0 := by omega
        cases an <;> rfl)
      have he : dstr (a + b) = ByteArray.empty := by rw [h0]; rfl
      go_enter Tryz.func14, Tryz.ntmps14
      go_wp2_with fail
      refine (add_any a b _ ha hb).mono ?_
      rintro e w1 ⟨rfl, hb1⟩
      rw [he]
      go_wp2
      all_goals
        go_ret2
        exact ⟨by rw [HR.out, he]; rfl, hb1⟩
    · have HR : Hid (sgT (sv an a + sv an b) = .tuple #[.bool an, .string (dstr (a + b))]) := hid (by
        symm
        apply sgT_eq
        · cases an
          · exact decide_eq_false (by simp [sv]; omega)
          · exact decide_eq_true (by simp [sv]; omega)
        · cases an
          · simp [sv]; omega
          · simp [sv]; omega)
      have he : (dstr (a + b)).toList.isEmpty = false := by
        rw [ByteArray.toList_eq, dstr_data]
        cases hd : digs (a + b) with
        | nil => exact absurd (digs_nil.1 hd) h0
        | cons => rfl
      obtain ⟨m, hm⟩ : ∃ m, dstr (a + b) = m := ⟨_, rfl⟩
      rw [hm] at he
      have HM := hid hm
      clear hm
      go_enter Tryz.func14, Tryz.ntmps14
      go_wp2_with fail
      refine (add_any a b _ ha hb).mono ?_
      rintro e w1 ⟨rfl, hb1⟩
      rw [HM.out]
      go_wp2
      all_goals
        go_ret2
        exact ⟨by rw [HR.out, HM.out]; first | rfl | (cases an <;> first | rfl | contradiction), hb1⟩
  · rcases Nat.lt_trichotomy a b with hlt | heq | hgt
    · have hc : cmpI a b = -1 := by unfold cmpI; rw [if_pos hlt]
      have HR : Hid (sgT (sv an a + sv bn b) = .tuple #[.bool bn, .string (dstr (b - a))]) := hid (by
        symm
        apply sgT_eq
        · cases an <;> cases bn <;> simp_all [sv] <;> omega
        · cases an <;> cases bn <;> simp_all [sv] <;> omega)
      have hd : decide (an = bn) = false := decide_eq_false hs
      have hd2 : (an == bn) = false := by simpa using hs
      go_enter Tryz.func14, Tryz.ntmps14
      go_wp2_with fail
      refine (cmp_any a b _ ha).mono ?_
      rintro e w1 ⟨rfl, hb1⟩
      rw [hc]
      go_wp2_with fail
      refine (sub_any b a _ hb (by omega)).mono ?_
      rintro e w2 ⟨rfl, hb2⟩
      have HB := hid (hb1.trans (hb2.mono hb1.size))
      clear hb1 hb2
      go_wp2
      go_ret2
      exact ⟨by rw [HR.out]; rfl, HB.out⟩
    · subst heq
      have hc : cmpI a a = 0 := by unfold cmpI; simp
      have HR : Hid (sgT (sv an a + sv bn a) = .tuple #[.bool false, .string ByteArray.empty]) := hid (by
        rw [show sv an a + sv bn a = 0 by cases an <;> cases bn <;> simp_all [sv] <;> omega]
        rfl)
      have hd : decide (an = bn) = false := decide_eq_false hs
      have hd2 : (an == bn) = false := by simpa using hs
      go_enter Tryz.func14, Tryz.ntmps14
      go_wp2_with fail
      refine (cmp_any a a _ ha).mono ?_
      rintro e w1 ⟨rfl, hb1⟩
      rw [hc]
      go_wp2
      go_ret2
      exact ⟨by rw [HR.out]; rfl, hb1⟩
    · have hc : cmpI a b = 1 := by unfold cmpI; rw [if_neg (by omega), if_neg (by omega)]
      have HR : Hid (sgT (sv an a + sv bn b) = .tuple #[.bool an, .string (dstr (a - b))]) := hid (by
        symm
        apply sgT_eq
        · cases an <;> cases bn <;> simp_all [sv] <;> omega
        · cases an <;> cases bn <;> simp_all [sv] <;> omega)
      have hd : decide (an = bn) = false := decide_eq_false hs
      have hd2 : (an == bn) = false := by simpa using hs
      go_enter Tryz.func14, Tryz.ntmps14
      go_wp2_with fail
      refine (cmp_any a b _ ha).mono ?_
      rintro e w1 ⟨rfl, hb1⟩
      rw [hc]
      go_wp2_with fail
      refine (sub_any a b _ ha (by omega)).mono ?_
      rintro e w2 ⟨rfl, hb2⟩
      have HB := hid (hb1.trans (hb2.mono hb1.size))
      clear hb1 hb2
      go_wp2
      go_ret2
      exact ⟨by rw [HR.out]; rfl, HB.out⟩
end Go.Proofs.Qxb6600768aGreatDoor
