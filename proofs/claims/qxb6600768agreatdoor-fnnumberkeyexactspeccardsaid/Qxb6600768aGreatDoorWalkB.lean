import Derived.Test.Qxb6600768aGreatDoorWalkA
import Derived.Lib.SlBytesRow
import Derived.Laws.OwnMore
namespace Go.Proofs.Qxb6600768aGreatDoor
open Go.RowKit Go.Shelf

theorem info5 : (Tryz.prog.info? 5).map (fun i => (i.zero, i.size, i.bytes)) = some (some (.int .u8 0), 1, 1) := by kernel_rfl
/-- Bytes as cells. -/
def bcells (l : List UInt8) : List Value := l.map fun b => Value.int .u8 b.toNat
theorem bcells_length (l : List UInt8) : (bcells l).length = l.length := by simp [bcells]

theorem conv_own {w : World} {base g cap : Nat} {l : List UInt8} (h : w.ownsRow base 5 1 (.slice (some ⟨g, 0, none⟩) l.length cap) l.length (bcells l)) :
    (convert 39 9 (.slice (some ⟨g, 0, none⟩) l.length cap)).run Tryz.prog w = .ok (.string ⟨l.toArray⟩) w := by
  have hB : Lib.Bytes w g 0 ⟨l.toArray⟩ := fun i hi => by
    have hi' : i < l.length := by simpa [ByteArray.size] using hi
    rw [Nat.zero_add, h.cellAt i (by omega)]
    unfold bcells
    rw [List.getElem?_map, List.getElem?_eq_getElem hi']
    rfl
  have := Lib.run_convert_whole (P := Tryz.prog) w 39 5 9 Tryz.underlying39 Tryz.underlying5 Tryz.underlying9 g 0 ⟨l.toArray⟩ hB cap
  have e : (⟨l.toArray⟩ : ByteArray).size = l.length := by simp [ByteArray.size]
  rw [e] at this
  exact this

/-- The number of the last k digits. -/
def lastv (l : List UInt8) (k : Nat) : Nat := val (l.drop (l.length - k))
theorem lastv_zero (l : List UInt8) : lastv l 0 = 0 := by simp [lastv, val_nil]
theorem lastv_all {l : List UInt8} {k : Nat} (h : l.length ≤ k) : lastv l k = val l := by unfold lastv; rw [show l.length - k = 0 by omega]; rfl
theorem lastv_succ {s : ByteArray} {k : Nat} (h : k < s.size) : lastv s.data.toList (k + 1) = dv (s[s.size - 1 - k]'(by omega)) * 10 ^ k + lastv s.data.toList k := by
  unfold lastv
  rw [size_eq_data, show s.size - (k + 1) = s.size - 1 - k by omega, drop_cons s (s.size - 1 - k) (by omega), val_cons, show s.size - 1 - k + 1 = s.size - k by omega, List.length_drop, size_eq_data, show s.size - (s.size - k) = k by omega]
theorem lastv_past {l : List UInt8} {k : Nat} (h : l.length ≤ k) : lastv l (k + 1) = lastv l k := by rw [lastv_all h, lastv_all (by omega)]

/-- The row while it is filled from its end: pre not yet, suf done. -/
def filled (w : World) (B n k : Nat) (suf : List UInt8) (w0 : World) : Prop :=
  Below B w0 w ∧ suf.length = k ∧ suf.all dgt = true ∧ ∃ pre : List Value, pre.length = n - k ∧ k ≤ n ∧ w.ownsRow B 5 1 (.slice (some ⟨B, 0, none⟩) n n) n (pre ++ bcells suf)
theorem filled_start {w w1 : World} {n : Nat} {xs : List Value} (ho : w1.ownsRow w.heap.size 5 1 (.slice (some ⟨w.heap.size, 0, none⟩) n n) n xs) (hg : w.grownBy w1 none) : filled w1 w.heap.size n 0 [] w :=
  ⟨(Below.refl w.heap.size w).grown hg (Nat.le_refl _) (fun k hk => by cases hk), rfl, rfl, xs, by rw [ho.1]; omega, by omega, by simpa [bcells] using ho⟩
theorem filled_cell {w w0 : World} {B n k : Nat} {suf : List UInt8} (h : filled w B n k suf w0) (hk : k < n) : ∃ v, w.cell? ⟨B, n - 1 - k, none⟩ = some v ∧ w.frozen? ⟨B, n - 1 - k, none⟩ = false := by
  obtain ⟨_, hs, _, pre, hp, _, ho⟩ := h
  have := ho.cellAt (n - 1 - k) (by omega)
  rw [List.getElem?_append_left (by omega), List.getElem?_eq_getElem (by omega)] at this
  exact ⟨_, this, ho.frozenAt _⟩
theorem filled_store {w w0 : World} {B n k d : Nat} {suf : List UInt8} (h : filled w B n k suf w0) (hk : k < n) (hd : d < 10) (x : Int) (hx : x = 48 + d) : filled (w.setCell ⟨B, n - 1 - k, none⟩ (.int .u8 x)) B n (k + 1) (UInt8.ofNat (48 + d) :: suf) w0 := by
  obtain ⟨hb, hs, ha, pre, hp, _, ho⟩ := h
  refine ⟨hb.setCell (Nat.le_refl _) _, by simp [hs], by rw [List.all_cons, dgt_ofNat hd, ha]; rfl, pre.dropLast, by simp; omega, by omega, ?_⟩
  have := (ho.stored (n - 1 - k) (.int .u8 x)).1
  have e : (pre ++ bcells suf).set (n - 1 - k) (.int .u8 x) = pre.dropLast ++ bcells (UInt8.ofNat (48 + d) :: suf) := by
    have hne : pre ≠ [] := by intro e; rw [e] at hp; simp at hp; omega
    have h1 : pre = pre.dropLast ++ [pre.getLast hne] := (List.dropLast_concat_getLast hne).symm
    have hl : pre.dropLast.length = n - 1 - k := by simp; omega
    rw [List.set_append_left _ _ (by omega)]
    conv => lhs; rw [h1]
    rw [List.set_append_right _ _ (by omega), hl, Nat.sub_self]
    unfold bcells
    rw [List.map_cons, ofNat_dig hd, hx]
    simp
  rw [e] at this
  exact this
theorem filled_done {w w0 : World} {B n : Nat} {suf : List UInt8} (h : filled w B n n suf w0) : (convert 39 9 (.slice (some ⟨B, 0, none⟩) n n)).run Tryz.prog w = .ok (.string ⟨suf.toArray⟩) w := by
  obtain ⟨_, hs, _, pre, hp, _, ho⟩ := h
  obtain rfl : pre = [] := List.length_eq_zero_iff.1 (by omega)
  subst hs
  exact conv_own ho

theorem dig_bd {s : ByteArray} (h : s.data.toList.all dgt = true) {j : Nat} (hj : j < s.size) : 48 ≤ (s[j].toNat : Int) ∧ (s[j].toNat : Int) ≤ 57 ∧ ((s[j].toNat : Int) - 48) = (dv s[j] : Int) := by
  have : s[j] ∈ s.data.toList := by
    rw [← List.take_append_drop j s.data.toList, drop_cons s j hj]; simp
  have := dgt_iff.1 (List.all_eq_true.1 h _ this)
  unfold dv
  omega


/-- One column of the sum. -/
theorem add_col {A B c x y k : Nat} {suf : List UInt8} {A' B' : Nat} (hI : A + B = c * 10 ^ k + val suf) (hs : suf.length = k) (hA : A' = x * 10 ^ k + A) (hB : B' = y * 10 ^ k + B) :
    A' + B' = ((c + x + y) / 10) * 10 ^ (k + 1) + val (UInt8.ofNat (48 + (c + x + y) % 10) :: suf) := by
  have hd : (c + x + y) % 10 < 10 := Nat.mod_lt _ (by decide)
  rw [val_cons, dv_ofNat hd, hs, hA, hB, Nat.pow_succ]
  have h1 : c + x + y = 10 * ((c + x + y) / 10) + (c + x + y) % 10 := (Nat.div_add_mod _ _).symm
  have h2 : (c + x + y) * 10 ^ k = 10 * ((c + x + y) / 10) * 10 ^ k + (c + x + y) % 10 * 10 ^ k := by rw [← Nat.add_mul, ← h1]
  have h3 : (c + x + y) * 10 ^ k = c * 10 ^ k + x * 10 ^ k + y * 10 ^ k := by rw [Nat.add_mul, Nat.add_mul]
  have h4 : (c + x + y) / 10 * (10 ^ k * 10) = 10 * ((c + x + y) / 10) * 10 ^ k := by
    rw [Nat.mul_comm 10 ((c + x + y) / 10), Nat.mul_assoc, Nat.mul_comm 10 (10 ^ k)]
  omega

theorem add_round {wr w : World} {B n k c p q : Nat} {suf a b : List UInt8} {S : Int} (hf : filled wr B (n + 1) k suf w) (hk : k < n) (hc : c ≤ 1) (hp : p < 10) (hq : q < 10) (hS : S = ((c + p + q : Nat) : Int))
    (hI : lastv a k + lastv b k = c * 10 ^ k + val suf) (hA : lastv a (k + 1) = p * 10 ^ k + lastv a k) (hB : lastv b (k + 1) = q * 10 ^ k + lastv b k) :
    ∃ (c1 k1 : Nat) (suf1 : List UInt8), Value.int .i64 (S / 10) = .int .i64 c1 ∧ Value.int .i64 ((k : Int) + 1) = .int .i64 k1 ∧ k1 ≤ n ∧ c1 ≤ 1 ∧ filled (wr.setCell ⟨B, n - k, none⟩ (.int .u8 (48 + S % 10))) B (n + 1) k1 suf1 w ∧ lastv a k1 + lastv b k1 = c1 * 10 ^ k1 + val suf1 := by
  have hd : (c + p + q) % 10 < 10 := Nat.mod_lt _ (by decide)
  refine ⟨(c + p + q) / 10, k + 1, UInt8.ofNat (48 + (c + p + q) % 10) :: suf, by rw [hS]; rfl, rfl, by omega, by omega, ?_, add_col hI hf.2.1 hA hB⟩
  have := filled_store hf (by omega) hd (48 + S % 10) (by rw [hS]; rfl)
  rw [show n + 1 - 1 - k = n - k by omega] at this
  exact this
theorem lastv_dig {s : ByteArray} (h : s.data.toList.all dgt = true) {k : Nat} (hk : k < s.size) {x : Int} (hx : ((s[s.size - 1 - k]'(by omega)).toNat : Int) = x) :
    ∃ p : Nat, p < 10 ∧ x - 48 = (p : Int) ∧ lastv s.data.toList (k + 1) = p * 10 ^ k + lastv s.data.toList k := by
  obtain ⟨x1, x2, x3⟩ := dig_bd h (j := s.size - 1 - k) (by omega)
  refine ⟨dv (s[s.size - 1 - k]'(by omega)), by omega, by omega, lastv_succ hk⟩
theorem lastv_past0 {l : List UInt8} {k : Nat} (h : l.length ≤ k) : lastv l (k + 1) = 0 * 10 ^ k + lastv l k := by rw [lastv_past h]; omega

set_option maxRecDepth 20000 in
set_option maxHeartbeats 2000000 in
theorem addMag_any (a b : ByteArray) (w : World) (ha : a.data.toList.all dgt = true) (hb : b.data.toList.all dgt = true) (hsa : a.size ≤ 4294967295) (hsb : b.size ≤ 4294967295) :
    Calls Tryz.prog 23 #[.string a, .string b] w fun e w' => e = .returned (.string ⟨(digs (val a.data.toList + val b.data.toList)).toArray⟩) ∧ Below w.heap.size w w' := by
  have HDa := hid ha
  have HDb := hid hb
  obtain ⟨i5, hi5, hz0, hz1, hz2⟩ := info_parts info5
  clear ha hb
  go_enter Tryz.func23, Tryz.ntmps23
  go_upto_if 19 with fail
  go_cut [7] (fun nv wc => ∃ n : Nat, nv = .int .i64 n ∧ a.size ≤ n ∧ b.size ≤ n ∧ n ≤ 4294967295 ∧ w = wc)
  case first =>
    by_cases hlt : a.size < b.size
    · go_wp2
      go_meet
      case rel => exact ⟨b.size, rfl, by omega, by omega, hsb, rfl⟩
    · go_wp2
      go_meet
      case rel => exact ⟨a.size, rfl, by omega, by omega, hsa, rfl⟩
  case rest =>
    obtain ⟨n, rfl, hna, hnb, hn, hwc⟩ := hcut
    subst hwc
    go_wp2_with (at_make; refine wpList_make_full _ rfl _ _ 39 rfl w.heap.size 5 i5 (.int .u8 0) 1 Tryz.underlying39 hi5 hz0 hz1 _ _ _ _ (n+1) rfl rfl ?m1 ?m2 ?m3 ?m4 ?m5 ?_)
    case m1 => rfl
    case m2 => rfl
    case m3 => first | omega | (rw [hz2]; omega)
    case m4 => unfold maxLen; omega
    case m5 => exact Nat.le_refl _
    intro w1 hown1 hgrow1
    have HF0 := hid (filled_start hown1 hgrow1)
    clear hown1 hgrow1
    go_wp2_with fail
    go_loopw [9, 10] (fun cv kv wr => ∃ (c k : Nat) (suf : List UInt8), cv = .int .i64 c ∧ kv = .int .i64 k ∧ k ≤ n ∧ c ≤ 1 ∧ filled wr w.heap.size (n + 1) k suf w ∧ lastv a.data.toList k + lastv b.data.toList k = c * 10 ^ k + val suf) (fun _ kv _ => n - (intOf kv).toNat)
    case atStart => exact ⟨0, 0, [], rfl, rfl, Nat.zero_le _, Nat.zero_le _, HF0.out, by rw [lastv_zero, lastv_zero, val_nil]⟩
    case round =>
      obtain ⟨c, k, suf, rfl, rfl, hk, hc, hf, hI⟩ := hrel
      have HF := hid hf
      have HI := hid hI
      have HS := hid hf.2.1
      clear hf hI HF0
      by_cases hlt : k < n
      · obtain ⟨v, hcell, hfroz⟩ := filled_cell HF.out (by omega)
        rw [show n + 1 - 1 - k = n - k by omega] at hcell hfroz
        have e1 : ((n : Int) - (k : Int)).toNat = n - k := by omega
        by_cases hka : k < a.size
        · have e2 : ((a.size : Int) - 1 - (k : Int)).toNat = a.size - 1 - k := by omega
          by_cases hkb : k < b.size
          · have e3 : ((b.size : Int) - 1 - (k : Int)).toNat = b.size - 1 - k := by omega
            obtain ⟨x, hx⟩ : ∃ x : Int, ((a[a.size - 1 - k]'(by omega)).toNat : Int) = x := ⟨_, rfl⟩
            obtain ⟨y, hy⟩ : ∃ y : Int, ((b[b.size - 1 - k]'(by omega)).toNat : Int) = y := ⟨_, rfl⟩
            obtain ⟨p, hp, hxp, hA⟩ := lastv_dig HDa.out hka hx
            obtain ⟨q, hq, hyq, hB⟩ := lastv_dig HDb.out hkb hy
            have x1 : 48 ≤ x := by omega
            have x2 : x ≤ 57 := by omega
            have y1 : 48 ≤ y := by omega
            have y2 : y ≤ 57 := by omega
            have HR := fun S hS => add_round (S := S) HF.out hlt hc hp hq hS HI.out hA hB
            have HX := hid hxp
            have HY := hid hyq
            clear hxp hyq hA hB
            go_wp2
            go_roundw
            case rel => exact HR _ (by rw [HX.out, HY.out]; omega)
            case measure => simp [intOf]; omega
          · obtain ⟨x, hx⟩ : ∃ x : Int, ((a[a.size - 1 - k]'(by omega)).toNat : Int) = x := ⟨_, rfl⟩
            obtain ⟨p, hp, hxp, hA⟩ := lastv_dig HDa.out hka hx
            have x1 : 48 ≤ x := by omega
            have x2 : x ≤ 57 := by omega
            have HR := fun S hS => add_round (S := S) HF.out hlt hc hp (show 0 < 10 by decide) hS HI.out hA (lastv_past0 (by rw [size_eq_data]; omega))
            have HX := hid hxp
            clear hxp hA
            go_wp2
            go_roundw
            case rel => exact HR _ (by rw [HX.out]; omega)
            case measure => simp [intOf]; omega
        · by_cases hkb : k < b.size
          · have e3 : ((b.size : Int) - 1 - (k : Int)).toNat = b.size - 1 - k := by omega
            obtain ⟨y, hy⟩ : ∃ y : Int, ((b[b.size - 1 - k]'(by omega)).toNat : Int) = y := ⟨_, rfl⟩
            obtain ⟨q, hq, hyq, hB⟩ := lastv_dig HDb.out hkb hy
            have y1 : 48 ≤ y := by omega
            have y2 : y ≤ 57 := by omega
            have HR := fun S hS => add_round (S := S) HF.out hlt hc (show 0 < 10 by decide) hq hS HI.out (lastv_past0 (by rw [size_eq_data]; omega)) hB
            have HY := hid hyq
            clear hyq hB
            go_wp2
            go_roundw
            case rel => exact HR _ (by rw [HY.out]; omega)
            case measure => simp [intOf]; omega
          · have HR := fun S hS => add_round (S := S) HF.out hlt hc (show 0 < 10 by decide) (show 0 < 10 by decide) hS HI.out (lastv_past0 (by rw [size_eq_data]; omega)) (lastv_past0 (by rw [size_eq_data]; omega))
            go_wp2
            go_roundw
            case rel => exact HR _ (by omega)
            case measure => simp [intOf]; omega
      · obtain rfl : k = n := by omega
        obtain ⟨v, hcell, hfroz⟩ := filled_cell HF.out (by omega)
        rw [show k + 1 - 1 - k = 0 by omega] at hcell hfroz
        obtain ⟨L, hL⟩ : ∃ L, UInt8.ofNat (48 + c) :: suf = L := ⟨_, rfl⟩
        have HF2 := hid (filled_store HF.out (by omega) (show c < 10 by omega) (48 + c) rfl)
        have HV : Hid (val L = val a.data.toList + val b.data.toList) := hid (by
          rw [← hL, val_cons, dv_ofNat (by omega), HS.out, ← HI.out, lastv_all (by rw [size_eq_data]; exact hna), lastv_all (by rw [size_eq_data]; exact hnb)])
        rw [hL, show k + 1 - 1 - k = 0 by omega] at HF2
        clear hL
        have hcv := filled_done HF2.out
        have HT : Hid (trim L = digs (val a.data.toList + val b.data.toList)) := hid (by rw [trim_digs HF2.out.2.2.1, HV.out])
        go_wp2_with fail
        refine (trimZeros_any ⟨L.toArray⟩ _ (by rw [← size_eq_data]; show L.length ≤ _; rw [HF2.out.2.1]; omega)).mono ?_
        rintro e w2 ⟨rfl, rfl⟩
        go_wp2
        go_ret
        exact ⟨ret_s (by show ByteArray.mk (trim L).toArray = _; rw [HT.out]), HF2.out.1⟩
end Go.Proofs.Qxb6600768aGreatDoor
