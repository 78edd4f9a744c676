import Derived.Test.Qxb6600768aGreatDoorPlainB
namespace Go.Proofs.Qxb6600768aGreatDoor
open Go.RowKit Go.Shelf

theorem byte_stop_at {s : ByteArray} {p q : List UInt8} (h : s.data.toList = p ++ q) (hq : stop q) {j : Nat} (hj : p.length = j) (hk : j < s.size) : dgt s[j] = false := by
  subst hj
  exact byte_stop h hq hk
theorem eq_beq {x : UInt8} {n : Nat} (hn : n < 256) (h : x = UInt8.ofNat n) : ((x.toNat : Int) == (n : Int)) = true := by
  rw [h, UInt8.toNat_ofNat', Nat.mod_eq_of_lt hn]; simp
theorem ne_beq {x : UInt8} {n : Nat} (hn : n < 256) (h : x ≠ UInt8.ofNat n) : ((x.toNat : Int) == (n : Int)) = false := by
  simp only [beq_eq_false_iff_ne, ne_eq]
  intro e
  apply h
  apply eq_of_toNat
  rw [UInt8.toNat_ofNat', Nat.mod_eq_of_lt hn]
  omega
theorem sign_at {s : ByteArray} {neg en : Bool} {W fp f ep e : List UInt8} (h : Num s.data.toList neg W fp f ep en e) : (s.size = 0 ∧ neg = false) ∨ ∃ hk : 0 < s.size, ((s[0].toNat : Int) == 45) = neg := by
  obtain ⟨hl, hW, hf, he⟩ := h
  cases neg with
  | true =>
    obtain ⟨hk, hx⟩ := byte_at (s := s) (p := []) (x := 45) (q := W ++ fp ++ ep) (by rw [hl]; simp [sgn])
    exact .inr ⟨hk, eq_beq (n := 45) (by decide) hx⟩
  | false =>
    rcases Nat.eq_zero_or_pos s.size with h0 | h0
    · exact .inl ⟨h0, rfl⟩
    · refine .inr ⟨h0, ne_beq (n := 45) (by decide) ?_⟩
      cases W with
      | cons d W =>
        obtain ⟨_, hx⟩ := byte_dgt (s := s) (p := []) (d := d :: W) (q := fp ++ ep) (by rw [hl]; simp [sgn]) hW (j := 0) (by simp) (by simp)
        intro e45
        rw [e45] at hx
        exact absurd hx (by decide)
      | nil =>
        have hl2 : s.data.toList = [] ++ (fp ++ ep) := by rw [hl]; simp [sgn]
        have hh : ∀ c, (fp ++ ep).head? = some c → c ≠ 45 := by
          rcases hf.2 with ⟨rfl, _⟩ | rfl
          · rcases he.2 with ⟨rfl, _⟩ | ⟨c, sg, hc, rfl, _⟩
            · intro c hc; cases hc
            · intro d hd
              simp at hd
              subst hd
              rcases hc with rfl | rfl <;> decide
          · intro d hd
            simp at hd
            subst hd
            decide
        cases hq : fp ++ ep with
        | nil => rw [hq] at hl2; rw [← size_eq_data, hl2] at h0; simp at h0
        | cons c q =>
          rw [hq] at hl2 hh
          obtain ⟨_, hx⟩ := byte_at hl2
          intro e45
          exact hh c rfl (by rw [← hx]; exact e45)

theorem dot_at {s : ByteArray} {neg en : Bool} {W fp f ep e : List UInt8} (h : Num s.data.toList neg W fp f ep en e) {b0 : Nat} (hb : (sgn neg).length + W.length = b0) :
    (fp = 46 :: f ∧ ∃ hk : b0 < s.size, ((s[b0].toNat : Int) == 46) = true) ∨ (fp = [] ∧ f = [] ∧ (b0 = s.size ∨ ∃ hk : b0 < s.size, ((s[b0].toNat : Int) == 46) = false)) := by
  subst hb
  obtain ⟨hl, hW, hf, he⟩ := h
  rcases hf.2 with ⟨rfl, rfl⟩ | rfl
  · refine .inr ⟨rfl, rfl, ?_⟩
    rcases he.2 with ⟨rfl, _⟩ | ⟨c, sg, hc, rfl, _⟩
    · left; rw [← size_eq_data, hl]; simp
    · right
      obtain ⟨hk, hx⟩ := byte_at (s := s) (p := sgn neg ++ W) (x := c) (q := sg ++ e) (by rw [hl]; simp)
      simp only [List.length_append] at hk hx
      refine ⟨hk, ne_beq (n := 46) (by decide) ?_⟩
      rw [hx]
      rcases hc with rfl | rfl <;> decide
  · refine .inl ⟨rfl, ?_⟩
    obtain ⟨hk, hx⟩ := byte_at (s := s) (p := sgn neg ++ W) (x := 46) (q := f ++ ep) (by rw [hl]; simp)
    simp only [List.length_append] at hk hx
    exact ⟨hk, eq_beq (n := 46) (by decide) hx⟩

/-- The row while it is filled from its head. -/
def fwd (w : World) (B n : Nat) (l : List UInt8) (w0 : World) : Prop :=
  Below B w0 w ∧ ∃ post : List Value, l.length + post.length = n ∧ w.ownsRow B 5 1 (.slice (some ⟨B, 0, none⟩) n n) n (bcells l ++ post)
theorem fwd_start {w w1 : World} {n : Nat} {xs : List Value} (ho : w1.ownsRow w.heap.size 5 1 (.slice (some ⟨w.heap.size, 0, none⟩) n n) n xs) (hg : w.grownBy w1 none) : fwd w1 w.heap.size n [] w :=
  ⟨(Below.refl w.heap.size w).grown hg (Nat.le_refl _) (fun k hk => by cases hk), xs, by rw [ho.1]; simp, by simpa [bcells] using ho⟩
theorem fwd_cell {w w0 : World} {B n k : Nat} {l : List UInt8} (h : fwd w B n l w0) (hk : k < n) : ∃ v, w.cell? ⟨B, k, none⟩ = some v ∧ w.frozen? ⟨B, k, none⟩ = false := by
  obtain ⟨_, post, hp, ho⟩ := h
  have := ho.cellAt k (by omega)
  rw [List.getElem?_eq_getElem (by simp [bcells]; omega)] at this
  exact ⟨_, this, ho.frozenAt _⟩
theorem fwd_store {w w0 : World} {B n k : Nat} {l : List UInt8} (h : fwd w B n l w0) (hl : l.length = k) (hk : k < n) (x : UInt8) : fwd (w.setCell ⟨B, k, none⟩ (.int .u8 (x.toNat : Int))) B n (l ++ [x]) w0 := by
  obtain ⟨hb, post, hp, ho⟩ := h
  cases post with
  | nil => simp at hp; omega
  | cons v post =>
    refine ⟨hb.setCell (Nat.le_refl _) _, post, by simp at hp ⊢; omega, ?_⟩
    have := (ho.stored k (.int .u8 (x.toNat : Int))).1
    have e : (bcells l ++ v :: post).set k (.int .u8 (x.toNat : Int)) = bcells (l ++ [x]) ++ post := by
      rw [List.set_append_right _ _ (by rw [bcells_length]; omega), bcells_length, hl, Nat.sub_self, List.set_cons_zero]
      unfold bcells
      simp
    rw [e] at this
    exact this
theorem fwd_done {w w0 : World} {B n : Nat} {l : List UInt8} (h : fwd w B n l w0) (hl : l.length = n) : (convert 39 9 (.slice (some ⟨B, 0, none⟩) n n)).run Tryz.prog w = .ok (.string ⟨l.toArray⟩) w := by
  obtain ⟨_, post, hp, ho⟩ := h
  obtain rfl : post = [] := List.length_eq_zero_iff.1 (by omega)
  subst hl
  rw [List.append_nil] at ho
  exact conv_own ho
theorem row_below {w w1 : World} {B g n cap : Nat} {xs : List Value} (ho : w.ownsRow B 5 1 (.slice (some ⟨g, 0, none⟩) n cap) n xs) (hb : Below w.heap.size w w1) : w1.ownsRow B 5 1 (.slice (some ⟨g, 0, none⟩) n cap) n xs ∧ g < w.heap.size := by
  rcases ho.2 with ⟨h, _⟩ | ⟨g', cap', cur, h, hbg, hg, rest⟩
  · cases h
  · cases h
    have hlt : g < w.heap.size := (Array.getElem?_eq_some_iff.1 hg).1
    exact ⟨⟨ho.1, .inr ⟨g, cap, cur, rfl, hbg, (hb.block g hlt).trans hg, rest⟩⟩, hlt⟩
theorem fwd.below {w w1 w0 : World} {B n : Nat} {l : List UInt8} (h : fwd w B n l w0) (hb : Below w.heap.size w w1) : fwd w1 B n l w0 := by
  obtain ⟨h1, post, hp, ho⟩ := h
  obtain ⟨h2, h3⟩ := row_below ho hb
  exact ⟨h1.trans (hb.mono (by omega)), post, hp, h2⟩
theorem fwd.drew {w w0 : World} {B n : Nat} {l : List UInt8} (h : fwd w B n l w0) : fwd w.drew B n l w0 := ⟨h.1.drew, h.2⟩
theorem sv_abs (z : Int) : sv (decide (z < 0)) z.natAbs = z := by
  unfold sv
  by_cases h : z < 0
  · rw [if_pos (by simpa using h)]; omega
  · rw [if_neg (by simpa using h)]; omega

theorem extract_rest {s : ByteArray} {p d : List UInt8} (h : s.data.toList = p ++ d) {i : Nat} (hi : p.length = i) : s.extract i s.size = ⟨d.toArray⟩ := by
  subst hi
  rw [Lib.extract_from, h, List.drop_left]
theorem byte_at' {s : ByteArray} {p q : List UInt8} {x : UInt8} (h : s.data.toList = p ++ x :: q) {j : Nat} (hj : p.length = j) : ∃ hk : j < s.size, s[j] = x := by
  subst hj
  exact byte_at h
/-- What stands behind the fraction. -/
def ExpAt (s : ByteArray) (c0 : Nat) (en : Bool) (e : List UInt8) : Prop :=
  (c0 = s.size ∧ e = [] ∧ en = false) ∨
  (c0 < s.size ∧ c0 + 1 = s.size ∧ e = [] ∧ en = false) ∨
  (c0 < s.size ∧ en = false ∧ s.extract (c0 + 1) s.size = ⟨e.toArray⟩ ∧ ∃ hk : c0 + 1 < s.size, ((s[c0 + 1].toNat : Int) == 43) = false ∧ ((s[c0 + 1].toNat : Int) == 45) = false) ∨
  (c0 < s.size ∧ s.extract (c0 + 2) s.size = ⟨e.toArray⟩ ∧ ∃ hk : c0 + 1 < s.size, ((s[c0 + 1].toNat : Int) == 43) = true ∧ ((s[c0 + 1].toNat : Int) == 45) = false ∧ en = false) ∨
  (c0 < s.size ∧ s.extract (c0 + 2) s.size = ⟨e.toArray⟩ ∧ ∃ hk : c0 + 1 < s.size, ((s[c0 + 1].toNat : Int) == 43) = false ∧ ((s[c0 + 1].toNat : Int) == 45) = true ∧ en = true)
theorem exp_at {s : ByteArray} {neg en : Bool} {W fp f ep e : List UInt8} (h : Num s.data.toList neg W fp f ep en e) {c0 : Nat} (hc0 : (sgn neg).length + W.length + fp.length = c0) : ExpAt s c0 en e := by
  obtain ⟨hl, hW, hf, he⟩ := h
  have hpl : (sgn neg ++ W ++ fp).length = c0 := by simp [← hc0]; omega
  rcases he.2 with ⟨rfl, rfl, rfl⟩ | ⟨c, sg, hc, rfl, hsg⟩
  · left
    refine ⟨?_, rfl, rfl⟩
    rw [← size_eq_data, hl, List.append_nil, hpl]
  · right
    obtain ⟨hk, _⟩ := byte_at' (s := s) (x := c) (q := sg ++ e) hl hpl
    have hpl2 : (sgn neg ++ W ++ fp ++ [c]).length = c0 + 1 := by rw [List.length_append, hpl]; rfl
    rcases hsg with ⟨rfl, rfl⟩ | ⟨rfl, rfl⟩ | ⟨rfl, rfl⟩
    · have hl2 : s.data.toList = (sgn neg ++ W ++ fp ++ [c]) ++ e := by rw [hl]; simp
      have hx := extract_rest hl2 hpl2
      cases e with
      | nil =>
        left
        refine ⟨hk, ?_, rfl, rfl⟩
        rw [← size_eq_data, hl2, List.append_nil, hpl2]
      | cons d e =>
        right; left
        obtain ⟨hk2, hd⟩ := byte_at' hl2 hpl2
        have hdd : dgt d = true := by have := he.1; rw [List.all_cons, Bool.and_eq_true] at this; exact this.1
        refine ⟨hk, rfl, hx, hk2, ne_beq (n := 43) (by decide) ?_, ne_beq (n := 45) (by decide) ?_⟩
        · rw [hd]; intro h; rw [h] at hdd; exact absurd hdd (by decide)
        · rw [hd]; intro h; rw [h] at hdd; exact absurd hdd (by decide)
    · right; right; left
      have hl2 : s.data.toList = (sgn neg ++ W ++ fp ++ [c]) ++ 43 :: e := by rw [hl]; simp
      obtain ⟨hk2, hd⟩ := byte_at' hl2 hpl2
      have hl3 : s.data.toList = (sgn neg ++ W ++ fp ++ [c] ++ [43]) ++ e := by rw [hl]; simp
      exact ⟨hk, extract_rest hl3 (by rw [List.length_append, hpl2]; rfl), hk2, eq_beq (n := 43) (by decide) hd, ne_beq (n := 45) (by decide) (by rw [hd]; decide), rfl⟩
    · right; right; right
      have hl2 : s.data.toList = (sgn neg ++ W ++ fp ++ [c]) ++ 45 :: e := by rw [hl]; simp
      obtain ⟨hk2, hd⟩ := byte_at' hl2 hpl2
      have hl3 : s.data.toList = (sgn neg ++ W ++ fp ++ [c] ++ [45]) ++ e := by rw [hl]; simp
      exact ⟨hk, extract_rest hl3 (by rw [List.length_append, hpl2]; rfl), hk2, ne_beq (n := 43) (by decide) (by rw [hd]; decide), eq_beq (n := 45) (by decide) hd, rfl⟩

set_option maxRecDepth 40000 in
set_option maxHeartbeats 8000000 in
theorem model_any (s : ByteArray) (w : World) (hs : s.size ≤ 1048576) {neg en : Bool} {W fp f ep e : List UInt8} (hN : Num s.data.toList neg W fp f ep en e) :
    Calls Tryz.prog 9 #[.string s] w fun x w' => x = .returned (decT neg W f en e) ∧ Below w.heap.size w w' := by
  have HN := hid hN
  have HSG := hid (sign_at hN)
  have HL := hid hN.1
  have HSZ : Hid ((sgn neg).length + W.length + fp.length + ep.length = s.size) := hid (by rw [← size_eq_data, hN.1]; simp; omega)
  clear hN
  obtain ⟨a0, ha0⟩ : ∃ a0, (sgn neg).length = a0 := ⟨_, rfl⟩
  obtain ⟨b0, hb0⟩ : ∃ b0, a0 + W.length = b0 := ⟨_, rfl⟩
  obtain ⟨c0, hc0⟩ : ∃ c0, b0 + fp.length = c0 := ⟨_, rfl⟩
  have hbs : b0 ≤ c0 := by omega
  have hcs : c0 ≤ s.size := by have := HSZ.out; omega
  have HA := hid ha0
  have HB := hid hb0
  have HC := hid hc0
  have hab : a0 ≤ b0 := by omega
  clear ha0 hb0 hc0
  go_enter Tryz.func9, Tryz.ntmps9
  go_upto_region 3 with fail
  go_cut [33] (fun cv wc => cv = .bool neg ∧ w = wc)
  case first =>
    rcases HSG.out with ⟨h0, hn⟩ | ⟨h0, hn⟩
    · have h0' : ¬ 0 < s.size := by omega
      go_wp2
      go_meet
      case rel => exact ⟨by rw [hn], rfl⟩
    · go_wp2
      go_meet
      case rel => exact ⟨rfl, rfl⟩
  case rest =>
    obtain ⟨rfl, hwc⟩ := hcut
    subst hwc
    go_upto_if 33 with fail
    go_cut [6, 7] (fun kv nv wc => kv = .int .i64 a0 ∧ nv = .bool neg ∧ w = wc)
    case first =>
      cases neg with
      | true =>
        obtain rfl : a0 = 1 := by rw [← HA.out]; rfl
        go_wp2
        go_meet
        case rel => exact ⟨rfl, rfl, rfl⟩
      | false =>
        obtain rfl : a0 = 0 := by rw [← HA.out]; rfl
        go_wp2
        go_meet
        case rel => exact ⟨rfl, rfl, rfl⟩
    case rest =>
      obtain ⟨rfl, rfl, hwc⟩ := hcut
      subst hwc
      go_upto_block 0 with fail
      go_cut [6] (fun kv wc => kv = .int .i64 b0 ∧ w = wc)
      case first =>
        go_wp2_with fail
        go_loop [6] (fun kv => ∃ j : Nat, kv = .int .i64 j ∧ a0 ≤ j ∧ j ≤ b0) (fun kv => s.size - (intOf kv).toNat)
        case atStart => exact ⟨a0, rfl, Nat.le_refl _, hab⟩
        case round =>
          obtain ⟨j, rfl, hj, hj2⟩ := hrel
          by_cases hjl : j < b0
          · obtain ⟨hk, hd⟩ := byte_dgt (s := s) (p := sgn neg) (d := W) (q := fp ++ ep) (by rw [HL.out]; simp) HN.out.2.1 (j := j) (by rw [HA.out]; exact hj) (by rw [HA.out, HB.out]; exact hjl)
            go_wp2_with fail
            refine (isDigit_any _ _).mono ?_
            rintro e1 w1 ⟨rfl, hw1⟩
            obtain rfl := hw1.symm
            rw [dgI_dgt, hd]
            go_wp2
            go_round
            case rel => exact ⟨j + 1, by go_num, by omega, by omega⟩
            case measure => simp [intOf]; omega
          · obtain rfl : j = b0 := by omega
            by_cases hk : j < s.size
            · have hd : dgt s[j] = false := by
                have := byte_stop (s := s) (p := sgn neg ++ W) (q := fp ++ ep) (by rw [HL.out]; simp) (stop_frac HN.out.2.2.1 HN.out.2.2.2) (by rw [List.length_append, HA.out, HB.out]; exact hk)
                simp only [List.length_append, HA.out, HB.out] at this
                exact this
              go_wp2_with fail
              refine (isDigit_any _ _).mono ?_
              rintro e1 w1 ⟨rfl, hw1⟩
              obtain rfl := hw1.symm
              rw [dgI_dgt, hd]
              go_wp2
              go_meet
              case rel => exact ⟨rfl, rfl⟩
            · go_wp2
              go_meet
              case rel => exact ⟨rfl, rfl⟩
      case rest =>
        obtain ⟨rfl, hwc⟩ := hcut
        subst hwc
        have hex : s.extract a0 b0 = ⟨W.toArray⟩ := extract_mid (p := sgn neg) (d := W) (q := fp ++ ep) (by rw [HL.out]; simp) HA.out.symm (by rw [HA.out, HB.out])
        have hbsz : b0 ≤ s.size := by omega
        obtain ⟨dot, hdot⟩ : ∃ dot : Bool, (dot = true ∧ fp = 46 :: f ∧ ∃ hk : b0 < s.size, ((s[b0].toNat : Int) == 46) = true) ∨ (dot = false ∧ fp = [] ∧ f = [] ∧ (b0 = s.size ∨ ∃ hk : b0 < s.size, ((s[b0].toNat : Int) == 46) = false)) := by
          rcases dot_at HN.out (b0 := b0) (by rw [HA.out, HB.out]) with h | h
          · exact ⟨true, .inl ⟨rfl, h⟩⟩
          · exact ⟨false, .inr ⟨rfl, h⟩⟩
        have HD := hid hdot
        clear hdot
        go_upto_region 11 with fail
        go_cut [62] (fun cv wc => cv = .bool dot ∧ w = wc)
        case first =>
          rcases HD.out with ⟨hd, _, hk, hx⟩ | ⟨hd, _, _, hx⟩
          · subst hd
            go_wp2
            go_meet
            case rel => exact ⟨rfl, rfl⟩
          · subst hd
            rcases hx with hx | ⟨hk, hx⟩
            · have hk : ¬ b0 < s.size := by omega
              have HX := hid hx
              clear hx
              go_wp2
              go_meet
              case rel => exact ⟨rfl, rfl⟩
            · go_wp2
              go_meet
              case rel => exact ⟨rfl, rfl⟩
        case rest =>
          clear hex
          obtain ⟨rfl, hwc⟩ := hcut
          subst hwc
          go_upto_if 62 with fail
          go_cut [6, 10, 11] (fun kv fv _ wc => kv = .int .i64 c0 ∧ fv = .string ⟨f.toArray⟩ ∧ w = wc)
          case first =>
            rcases HD.out with ⟨hd, hfp, hk, hx⟩ | ⟨hd, hfp, hf0, hx⟩
            · subst hd
              clear hx
              have hc1 : b0 + 1 + f.length = c0 := by
                have := HC.out
                rw [hfp] at this
                simp at this
                omega
              have HC1 := hid hc1
              have hbc : b0 + 1 ≤ c0 := by omega
              have HP : Hid (s.data.toList = sgn neg ++ W ++ [46] ++ f ++ ep) := hid (by rw [HL.out, hfp]; simp)
              have HPL : Hid ((sgn neg ++ W ++ [46]).length = b0 + 1) := hid (by rw [List.length_append, List.length_append, HA.out, HB.out]; rfl)
              have hex2 : s.extract (b0 + 1) c0 = ⟨f.toArray⟩ := extract_mid (p := sgn neg ++ W ++ [46]) (d := f) (q := ep) HP.out HPL.out.symm (by rw [HPL.out, HC1.out])
              have HEX2 := hid hex2
              clear hc1 hfp hex2
              go_upto_block 2 with fail
              go_cut [6] (fun kv wc => kv = .int .i64 c0 ∧ w = wc)
              case first =>
                go_wp2_with fail
                go_loop [6] (fun kv => ∃ j : Nat, kv = .int .i64 j ∧ b0 + 1 ≤ j ∧ j ≤ c0) (fun kv => s.size - (intOf kv).toNat)
                case atStart => exact ⟨b0 + 1, by go_num, Nat.le_refl _, hbc⟩
                case round =>
                  obtain ⟨j, rfl, hj, hj2⟩ := hrel
                  by_cases hjl : j < c0
                  · obtain ⟨hk, hd⟩ := byte_dgt (s := s) (p := sgn neg ++ W ++ [46]) (d := f) (q := ep) HP.out HN.out.2.2.1.1 (j := j) (by rw [HPL.out]; exact hj) (by rw [HPL.out, HC1.out]; exact hjl)
                    go_wp2_with fail
                    refine (isDigit_any _ _).mono ?_
                    rintro e1 w1 ⟨rfl, hw1⟩
                    obtain rfl := hw1.symm
                    rw [dgI_dgt, hd]
                    go_wp2
                    go_round
                    case rel => exact ⟨j + 1, by go_num, by omega, by omega⟩
                    case measure => simp [intOf]; omega
                  · obtain rfl : j = c0 := by omega
                    by_cases hk : j < s.size
                    · have hd : dgt s[j] = false := by
                        exact byte_stop_at (s := s) (p := sgn neg ++ W ++ [46] ++ f) (q := ep) HP.out (stop_exp HN.out.2.2.2) (by rw [List.length_append, HPL.out, HC1.out]) hk
                      go_wp2_with fail
                      refine (isDigit_any _ _).mono ?_
                      rintro e1 w1 ⟨rfl, hw1⟩
                      obtain rfl := hw1.symm
                      rw [dgI_dgt, hd]
                      go_wp2
                      go_meet
                      case rel => exact ⟨rfl, rfl⟩
                    · go_wp2
                      go_meet
                      case rel => exact ⟨rfl, rfl⟩
              case rest =>
                obtain ⟨rfl, hwc⟩ := hcut
                subst hwc
                have hex2 := HEX2.out
                go_wp2
                go_meet
                case rel => exact ⟨rfl, rfl, rfl⟩
            · subst hd
              clear hx
              have HF0 := hid hf0
              have HB0 : Hid (b0 = c0) := hid (by have := HC.out; rw [hfp] at this; simpa using this)
              clear hf0 hfp
              go_wp2
              go_meet
              case rel => exact ⟨by rw [HB0.out], by rw [HF0.out], rfl⟩
          case rest =>
            obtain ⟨rfl, rfl, hwc⟩ := hcut
            subst hwc
            have HEA := hid (exp_at HN.out (c0 := c0) (by have := HA.out; have := HB.out; have := HC.out; omega))
            have HDs : Hid ((W ++ f).all dgt = true) := hid (by rw [List.all_append, HN.out.2.1, HN.out.2.2.1.1]; rfl)
            have HDe : Hid (e.all dgt = true) := hid HN.out.2.2.2.1
            have HWs : Hid (W.length ≤ 1048576 ∧ f.length ≤ 1048576 ∧ e.length ≤ 1048576) := hid (by
              have h1 := HSZ.out
              have h2 : f.length ≤ fp.length := by
                rcases HN.out.2.2.1.2 with ⟨_, h⟩ | h
                · rw [h]; simp
                · rw [h]; simp
              have h3 : e.length ≤ ep.length := by
                rcases HN.out.2.2.2.2 with ⟨_, h, _⟩ | ⟨c, sg, _, h, _⟩
                · rw [h]; simp
                · rw [h]; simp; omega
              omega)
            clear HD HSG HL HSZ HA HB HC HN hab hbs hbsz
            go_upto_region 19 with fail
            go_cut [85] (fun cv wc => cv = .bool (decide (c0 < s.size)) ∧ w = wc)
            case first =>
              by_cases hlt : c0 < s.size
              · go_wp2
                go_meet
                case rel => exact ⟨by rw [decide_eq_true hlt], rfl⟩
              · go_wp2
                go_meet
                case rel => exact ⟨by rw [decide_eq_false hlt], rfl⟩
            case rest =>
              obtain ⟨rfl, hwc⟩ := hcut
              subst hwc
              go_upto_if 85 with fail
              go_cut [6, 12, 13] (fun _ nv ev wc => nv = .bool en ∧ ev = .string ⟨e.toArray⟩ ∧ w = wc)
              case first =>
                rcases HEA.out with ⟨h1, h2, h3⟩ | ⟨h1, h2, h3, h4⟩ | ⟨h1, h2, h3, hk, h5, h6⟩ | ⟨h1, h2, hk, h4, h5, h6⟩ | ⟨h1, h2, hk, h4, h5, h6⟩
                · have hlt : ¬ c0 < s.size := by omega
                  have H1 := hid h1
                  subst h2 h3
                  clear h1
                  go_wp2
                  go_meet
                  case rel => exact ⟨rfl, rfl, rfl⟩
                · have hlt : ¬ c0 + 1 < s.size := by omega
                  have H1 := hid h2
                  have hex : s.extract (c0 + 1) s.size = ⟨#[]⟩ := extract_rest (p := s.data.toList) (d := []) (by simp) (by rw [size_eq_data]; omega)
                  have hle : c0 + 1 ≤ s.size := by omega
                  subst h3 h4
                  clear h2
                  go_wp2
                  go_meet
                  case rel => exact ⟨rfl, rfl, rfl⟩
                · subst h2
                  go_wp2
                  go_meet
                  case rel => exact ⟨rfl, rfl, rfl⟩
                · subst h6
                  have H2 := hid h2
                  clear h2
                  go_wp2
                  go_meet
                  case rel => exact ⟨rfl, congrArg Value.string H2.out, rfl⟩
                · subst h6
                  have H2 := hid h2
                  clear h2
                  go_wp2
                  go_meet
                  case rel => exact ⟨rfl, congrArg Value.string H2.out, rfl⟩
              case rest =>
                obtain ⟨rfl, rfl, hwc⟩ := hcut
                subst hwc
                clear HEA hcs
                obtain ⟨hW1, hf1, he1⟩ := HWs.out
                go_wp2_with fail
                go_loop [15, 16, 17] (fun av bv jv => ∃ (j : Nat) (a b : Int), av = .int .i64 a ∧ bv = .int .i64 b ∧ jv = .int .i64 j ∧ j ≤ W.length + f.length ∧ Scan (W ++ f) j a b) (fun _ _ jv => W.length + f.length - (intOf jv).toNat)
                case atStart => exact ⟨0, -1, -1, rfl, rfl, rfl, Nat.zero_le _, scan_start _⟩
                case round =>
                  obtain ⟨j, a, b, rfl, rfl, rfl, hj, hsc⟩ := hrel
                  obtain ⟨hb1, hb2, hb3, hb4⟩ := hsc.bd
                  have HS := hid hsc
                  have HB4 := hid hb4
                  clear hsc hb4
                  by_cases hjl : j < W.length + f.length
                  · go_wp2_with fail
                    refine (digitAt_any ⟨W.toArray⟩ ⟨f.toArray⟩ j _ (by rw [Lib.size_mk, Lib.size_mk]; exact hjl) (by rw [Lib.size_mk, Lib.size_mk]; omega)).mono ?_
                    rintro e1 w1 ⟨rfl, hw1⟩
                    obtain rfl := hw1.symm
                    obtain ⟨x, hx⟩ : ∃ x, catAt ⟨W.toArray⟩ ⟨f.toArray⟩ j = x := ⟨_, rfl⟩
                    rw [hx]
                    have HX : Hid ((W ++ f).getD j 0 = x) := hid hx
                    clear hx
                    cases hc : ((x.toNat : Int) == 48) with
                    | true =>
                      have HS2 := hid (HS.out.zero (by rw [HX.out]; exact eqc (n := 48) (by decide) hc))
                      have hc2 : ((x.toNat : Int) != 48) = false := by simpa using hc
                      go_wp2
                      go_round
                      case rel => exact ⟨j + 1, a, b, rfl, rfl, by go_num, by omega, HS2.out⟩
                      case measure => simp [intOf]; omega
                    | false =>
                      have hne : (W ++ f).getD j 0 ≠ 48 := by rw [HX.out]; exact nec (n := 48) (by decide) hc
                      have HNE := hid hne
                      have hc2 : ((x.toNat : Int) != 48) = true := by simpa using hc
                      clear hne
                      by_cases ha : a < 0
                      · have HS2 := hid (HS.out.first ha HNE.out)
                        go_wp2
                        go_round
                        case rel => exact ⟨j + 1, j, j, rfl, rfl, by go_num, by omega, HS2.out⟩
                        case measure => simp [intOf]; omega
                      · have HS2 := hid (HS.out.more (by omega) HNE.out)
                        go_wp2
                        go_round
                        case rel => exact ⟨j + 1, a, j, rfl, rfl, by go_num, by omega, HS2.out⟩
                        case measure => simp [intOf]; omega
                  · obtain rfl : j = W.length + f.length := by omega
                    have HS1 : Hid (Scan (W ++ f) (W ++ f).length a b) := hid (by rw [List.length_append]; exact HS.out)
                    by_cases ha : a < 0
                    · have HT : Hid (decT neg W f en e = .tuple #[.bool neg, .string ByteArray.empty, .bool false, .string ByteArray.empty]) := hid (by unfold decT; rw [if_pos (HS1.out.none ha)])
                      go_wp2
                      exact bodyPost_ret (v := .tuple #[.bool neg, .string ByteArray.empty, .bool false, .string ByteArray.empty]) (by simp [results, Tryz.results9, go_sem]; rfl) rfl ⟨by rw [HT.out], Below.refl _ _⟩
                    · obtain ⟨p, q, rfl, rfl, hpq, hqD, htr, hmid⟩ := HS1.out.some (by omega)
                      rw [List.length_append] at hqD
                      obtain ⟨m, rfl⟩ : ∃ m, q = p + m := ⟨q - p, by omega⟩
                      rw [show p + m - p + 1 = m + 1 by omega] at hmid
                      have HT : Hid (decT neg W f en e = .tuple #[.bool neg, .string ⟨((W ++ f).drop p |>.take (m + 1)).toArray⟩, .bool (decide (sv en (val e) + ((W.length : Int) - (p : Int)) < 0)), .string (dstr (sv en (val e) + ((W.length : Int) - (p : Int))).natAbs)]) := hid (by
                        have hz : ptZ W f en e = sv en (val e) + ((W.length : Int) - (p : Int)) := by
                          unfold ptZ
                          rw [htr, List.length_drop, List.length_append]
                          omega
                        unfold decT
                        rw [if_neg (by rw [htr]; intro h; have := congrArg List.length h; simp at this; omega), hz, hmid])
                      clear htr hmid HS HS1 HB4 hb1 hb2 hb3 hpq
                      obtain ⟨i5, hi5, hz0, hz1, hz2⟩ := info_parts info5
                      go_wp2_with (at_make; refine wpList_make_full _ rfl _ _ 39 rfl w.heap.size 5 i5 (.int .u8 0) 1 Tryz.underlying39 hi5 hz0 hz1 _ _ _ _ (m + 1) rfl rfl ?m1 ?m2 ?m3 ?m4 ?m5 ?_)
                      case m1 => first | rfl | omega
                      case m2 => first | rfl | omega
                      case m3 => first | omega | (rw [hz2]; omega)
                      case m4 => unfold maxLen; omega
                      intro w1 hown1 hgrow1
                      have HF0 := hid (fwd_start hown1 hgrow1)
                      clear hown1 hgrow1
                      go_wp2_with fail
                      go_loopw [19] (fun jv wr => ∃ k : Nat, jv = .int .i64 ((p + k : Nat) : Int) ∧ k ≤ m + 1 ∧ fwd wr w.heap.size (m + 1) ((W ++ f).drop p |>.take k) w) (fun jv _ => p + m + 1 - (intOf jv).toNat)
                      case atStart => exact ⟨0, rfl, Nat.zero_le _, HF0.out⟩
                      case round =>
                        clear HF0
                        obtain ⟨k, rfl, hk, hf0⟩ := hrel
                        have HF := hid hf0
                        clear hf0
                        by_cases hkl : k < m + 1
                        · obtain ⟨v, hcell, hfroz⟩ := fwd_cell HF.out hkl
                          have hlen : ((W ++ f).drop p |>.take k).length = k := by rw [List.length_take, List.length_drop, List.length_append]; omega
                          have hle : k ≤ m := by omega
                          go_wp2_with fail
                          refine (digitAt_any ⟨W.toArray⟩ ⟨f.toArray⟩ (p + k) _ (by rw [Lib.size_mk, Lib.size_mk]; omega) (by rw [Lib.size_mk, Lib.size_mk]; omega)).mono ?_
                          rintro e1 w2 ⟨rfl, hw2⟩
                          obtain rfl := hw2.symm
                          obtain ⟨x, hx⟩ : ∃ x, catAt ⟨W.toArray⟩ ⟨f.toArray⟩ (p + k) = x := ⟨_, rfl⟩
                          rw [hx]
                          have HF2 := hid (fwd_store HF.out hlen hkl x)
                          have HX : Hid (((W ++ f).drop p |>.take (k + 1)) = ((W ++ f).drop p |>.take k) ++ [x]) := hid (by
                            rw [← hx]
                            unfold catAt
                            rw [List.take_add_one, List.getElem?_drop, List.getD_eq_getElem?_getD]
                            show _ ++ ((W ++ f)[p + k]?).toList = _ ++ [((W ++ f)[p + k]?).getD 0]
                            rw [List.getElem?_eq_getElem (by rw [List.length_append]; omega)]
                            rfl)
                          clear hx
                          go_wp2
                          go_roundw
                          case rel => exact ⟨k + 1, by go_num, by omega, by rw [HX.out]; exact HF2.out⟩
                          case measure => simp [intOf]; omega
                        · obtain rfl : k = m + 1 := by omega
                          have hlen : ((W ++ f).drop p |>.take (m + 1)).length = m + 1 := by rw [List.length_take, List.length_drop, List.length_append]; omega
                          obtain ⟨D, hD⟩ : ∃ D, ((W ++ f).drop p |>.take (m + 1)) = D := ⟨_, rfl⟩
                          rw [hD] at HF HT hlen
                          clear hD
                          have HLn := hid hlen
                          clear hlen hkl
                          obtain ⟨z, hz⟩ : ∃ z : Int, (W.length : Int) - (p : Int) = z := ⟨_, rfl⟩
                          have hzb : -1048576 * 2 ≤ z ∧ z ≤ 1048576 := by omega
                          rw [hz] at HT
                          have HZ := hid hz
                          go_wp2_with fail
                          refine (itoa_any z _ (by omega) (by omega)).mono ?_
                          rintro e1 w3 ⟨rfl, hb3⟩
                          have HF3 := hid (HF.out.below hb3)
                          clear hb3 HF
                          go_wp2_with fail
                          refine (trimZeros_any ⟨e.toArray⟩ _ (by rw [Lib.size_mk]; omega)).mono ?_
                          rintro e1 w4 ⟨rfl, hw4⟩
                          obtain rfl := hw4.symm
                          rw [show (⟨(trim (⟨e.toArray⟩ : ByteArray).data.toList).toArray⟩ : ByteArray) = dstr (val e) from by rw [show (⟨e.toArray⟩ : ByteArray).data.toList = e from rfl, trim_digs HDe.out]; rfl]
                          go_wp2_with fail
                          refine (signedAdd_any en (decide (z < 0)) (val e) z.natAbs _ (by rw [dstr_size]; have := digs_len_le (val_lt HDe.out); omega) (by rw [dstr_size]; have := digs_len_le (n := z.natAbs) (k := 8) (by omega); omega)).mono ?_
                          rintro e1 w5 ⟨rfl, hb5⟩
                          have HF5 := hid (HF3.out.below hb5)
                          clear hb5 HF3
                          rw [sv_abs]
                          unfold sgT
                          obtain ⟨zs, hzs⟩ : ∃ zs : Bool, decide (sv en (val e) + z < 0) = zs := ⟨_, rfl⟩
                          obtain ⟨zd, hzd⟩ : ∃ zd, dstr (sv en (val e) + z).natAbs = zd := ⟨_, rfl⟩
                          rw [hzs, hzd]
                          rw [hzs, hzd] at HT
                          have hcv := fwd_done HF5.out.drew HLn.out
                          clear hzs hzd
                          go_wp2
                          go_region
                          go_wp2
                          exact bodyPost_ret (v := .tuple #[.bool neg, .string ⟨D.toArray⟩, .bool zs, .string zd]) (by simp [results, Tryz.results9, go_sem]) rfl ⟨by rw [HT.out], HF5.out.1.drew⟩
end Go.Proofs.Qxb6600768aGreatDoor
