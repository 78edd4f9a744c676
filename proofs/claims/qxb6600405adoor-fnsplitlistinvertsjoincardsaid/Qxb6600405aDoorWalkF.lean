import Derived.Test.Qxb6600405aDoorWalkE
import Derived.Lib.AppendStr
import Derived.Lib.SlBytesRow
import Derived.Laws.OwnMore
namespace Go.Proofs.Qxb6600405aDoor
open Go.RowKit Go.Shelf

/-- v is a slice, nil or not, that shows the strings ps. -/
def viewS (w : World) (ao : Option Addr) (ps : List ByteArray) : Prop :=
  ∀ i, i < ps.length → ∃ b off, ao = some ⟨b, off, none⟩ ∧ w.cell? ⟨b, off + i, none⟩ = some (.string (ps.getD i ByteArray.empty))
def tot (l : List ByteArray) : Nat := (l.map ByteArray.size).sum
theorem tot_snoc {ps : List ByteArray} {k : Nat} {p : ByteArray} (hk : k < ps.length) (hp : ps.getD k ByteArray.empty = p) : tot (ps.take (k + 1)) = tot (ps.take k) + p.size := by
  rw [getD_at hk] at hp
  unfold tot
  rw [List.take_succ_eq_append_getElem hk, hp]; simp
theorem tot_take_le (ps : List ByteArray) (k : Nat) : tot (ps.take k) ≤ tot ps := by
  unfold tot
  conv => rhs; rw [← List.take_append_drop k ps]
  rw [List.map_append, List.sum_append]; omega
theorem tot_full {ps : List ByteArray} {k : Nat} (hk : ps.length ≤ k) : tot (ps.take k) = tot ps := by rw [List.take_of_length_le hk]

set_option maxHeartbeats 400000 in
theorem bytes_any (ps : List ByteArray) (ao : Option Addr) (cap : Nat) (w : World) (hv : viewS w ao ps) (hlen : ps.length ≤ 9223372036854775807) (hp : ∀ p ∈ ps, p.size ≤ 9223372036854775807) :
    Calls Tryd.prog 9 #[.slice ao ps.length cap] w fun e w' => w' = w ∧ (e = .returned (.bool false) ∨ (e = .returned (.bool true) ∧ ps.length + tot ps ≤ 1048576)) := by
  have HV := hid hv
  have HP := hid hp
  clear hv hp
  by_cases h1 : ps.length ≤ 1048576
  · go_enter Tryd.func9, Tryd.ntmps9
    go_wp2
    go_loop [3, 4] (fun z i => ∃ (k m : Nat), k ≤ ps.length ∧ i = .int .i64 k ∧ z = .int .i64 m ∧ m ≤ 1048576 ∧ m = ps.length + tot (ps.take k)) (fun _ i => ps.length - (intOf i).toNat)
    case atStart => exact ⟨0, ps.length, Nat.zero_le _, rfl, by simp, by omega, by simp [tot]⟩
    case round =>
      obtain ⟨k, m, hk, rfl, rfl, hm, hme⟩ := hrel
      have HM := hid hme
      clear hme
      by_cases hlt : k < ps.length
      · obtain ⟨b, off, rfl, hc⟩ := HV.out k hlt
        have hpz := HP.out (ps.getD k ByteArray.empty) (by rw [getD_at hlt]; exact List.getElem_mem hlt)
        have HT := hid (tot_snoc hlt rfl)
        obtain ⟨p, hp⟩ : ∃ p, ps.getD k ByteArray.empty = p := ⟨_, rfl⟩
        rw [hp] at hc hpz HT
        clear hp
        go_wp2
        · go_ret
          exact ⟨rfl, .inl rfl⟩
        · go_ret
          exact ⟨rfl, .inl rfl⟩
        · go_round
          case rel => exact ⟨k + 1, m + p.size, by omega, by go_num, by go_num, by omega, by rw [HT.out, HM.out]; omega⟩
          case measure => simp [intOf]; omega
      · go_wp2
        go_ret
        exact ⟨rfl, .inr ⟨rfl, by rw [← tot_full (k := k) (by omega), ← HM.out]; exact hm⟩⟩
  · go_enter Tryd.func9, Tryd.ntmps9
    go_wp2
    go_ret
    exact ⟨rfl, .inl rfl⟩

theorem info5 : (Tryd.prog.info? 5).map (fun i => (i.zero, i.size, i.bytes)) = some (some (.int .u8 0), 1, 1) := by kernel_rfl
/-- Bytes as cells. -/
def bcells (l : List UInt8) : List Value := l.map fun b => Value.int .u8 b.toNat
theorem bcells_length (l : List UInt8) : (bcells l).length = l.length := by simp [bcells]
theorem bcells_append (l l' : List UInt8) : bcells (l ++ l') = bcells l ++ bcells l' := by simp [bcells]
theorem strCells_b (p : ByteArray) : Lib.strCells p = bcells p.data.toList := rfl
def joined (ps : List ByteArray) : List UInt8 := joinC 44 (ps.map (·.data.toList))
theorem joined_first {ps : List ByteArray} {p : ByteArray} (hk : 0 < ps.length) (hp : ps.getD 0 ByteArray.empty = p) : joined (ps.take 1) = p.data.toList := by
  rw [getD_at hk] at hp
  unfold joined
  rw [List.take_succ_eq_append_getElem hk, hp]; simp [joinC]
theorem joined_more {ps : List ByteArray} {k : Nat} {p : ByteArray} (h0 : 0 < k) (hk : k < ps.length) (hp : ps.getD k ByteArray.empty = p) : joined (ps.take (k + 1)) = (joined (ps.take k) ++ [44]) ++ p.data.toList := by
  rw [getD_at hk] at hp
  unfold joined
  rw [List.take_succ_eq_append_getElem hk, hp, List.map_append, List.map_cons, List.map_nil, joinC_snoc]
  · simp
  · intro h
    have := congrArg List.length h
    rw [List.length_map, List.length_take, List.length_nil] at this; omega
theorem joined_len : ∀ ps : List ByteArray, (joined ps).length ≤ tot ps + ps.length
  | [] => by simp [joined, joinC]
  | [p] => by simp [joined, joinC, tot]
  | p :: q :: r => by
    have ih := joined_len (q :: r)
    simp [joined, joinC, tot] at ih ⊢
    omega

theorem owns_len {w : World} {base n m : Nat} {v : Value} {xs ys : List Value} {e : TypeId} (h : w.ownsRow base e 1 v n xs) (h1 : n = m) (h2 : xs = ys) : w.ownsRow base e 1 v m ys := by subst h1; subst h2; exact h
theorem below_app5 {w wr w1 : World} {v : Value} {n : Nat} {xs : List Value} {o : Obj} (hown : wr.ownsRow w.heap.size 5 1 v n xs) (hsz : w.heap.size ≤ wr.heap.size) (hb : Below w.heap.size w wr) (hg : (wr.alloc o).grownBy w1 v.ownBlock) : Below w.heap.size w w1 :=
  (hb.alloc hsz o).grown hg (by simp; omega) (fun k hk => (hown.lt k hk).1)
theorem below_app5' {w wr w1 : World} {v : Value} {n : Nat} {xs : List Value} (hown : wr.ownsRow w.heap.size 5 1 v n xs) (hsz : w.heap.size ≤ wr.heap.size) (hb : Below w.heap.size w wr) (hg : wr.grownBy w1 v.ownBlock) : Below w.heap.size w w1 :=
  hb.grown hg hsz (fun k hk => (hown.lt k hk).1)

theorem conv_own {w : World} {base g cap : Nat} {l : List UInt8} (h : w.ownsRow base 5 1 (.slice (some ⟨g, 0, none⟩) l.length cap) l.length (bcells l)) :
    (convert 31 9 (.slice (some ⟨g, 0, none⟩) l.length cap)).run Tryd.prog w = .ok (.string ⟨l.toArray⟩) w := by
  have hB : Lib.Bytes w g 0 ⟨l.toArray⟩ := fun i hi => by
    have hi' : i < l.length := by simpa [ByteArray.size] using hi
    rw [Nat.zero_add, h.cellAt i (by omega)]
    unfold bcells
    rw [List.getElem?_map, List.getElem?_eq_getElem hi']
    rfl
  have := Lib.run_convert_whole (P := Tryd.prog) w 31 5 9 Tryd.underlying31 Tryd.underlying5 Tryd.underlying9 g 0 ⟨l.toArray⟩ hB cap
  have e : (⟨l.toArray⟩ : ByteArray).size = l.length := by simp [ByteArray.size]
  rw [e] at this
  exact this

set_option maxHeartbeats 1000000 in
theorem join_any (ps : List ByteArray) (ao : Option Addr) (cap : Nat) (w : World) (hv : viewS w ao ps) (hlen : ps.length + tot ps ≤ 1048576) :
    Calls Tryd.prog 11 #[.slice ao ps.length cap] w fun e w' => e = .returned (.string ⟨(joined ps).toArray⟩) ∧ Below w.heap.size w w' := by
  have HV := hid hv
  clear hv
  obtain ⟨i0, hi, hz0, hz1, hz2⟩ := info_parts info5
  go_enter Tryd.func11, Tryd.ntmps11
  go_wp2
  go_loopw [3, 4] (fun v0 i wr => ∃ (v : Value) (k : Nat), v = v0 ∧ k ≤ ps.length ∧ i = .int .i64 k ∧ wr.ownsRow w.heap.size 5 1 v (joined (ps.take k)).length (bcells (joined (ps.take k))) ∧ v ≠ .slice none 0 0 ∧ Below w.heap.size w wr)
    (fun _ i _ => ps.length - (intOf i).toNat)
  case atStart => exact ⟨_, 0, rfl, Nat.zero_le _, rfl, World.ownsRow_made _ _ 0 (Nat.le_refl _) (Nat.zero_le _) rfl, by simp, (Below.refl _ _).alloc (Nat.le_refl _) _⟩
  case round =>
    obtain ⟨v, k, rfl, hk, rfl, hown, hnn, hb⟩ := hrel
    have HB := hid hb
    have HN := hid hnn
    have hsz := hb.size
    clear hb hnn
    have hjl : (joined (ps.take k)).length ≤ 1048576 := by
      have := joined_len (ps.take k)
      have := tot_take_le ps k
      have : (ps.take k).length ≤ ps.length := by simp; omega
      omega
    by_cases hlt : k < ps.length
    · have hjl1 : (joined (ps.take (k + 1))).length ≤ 1048576 := by
        have := joined_len (ps.take (k + 1))
        have := tot_take_le ps (k + 1)
        have : (ps.take (k + 1)).length ≤ ps.length := by simp; omega
        omega
      obtain ⟨b, off, rfl, hc0⟩ := HV.out k hlt
      have hbl := World.block_lt_of_cell? _ _ hc0
      have hc : wr.cell? ⟨b, off + k, none⟩ = some (.string (ps.getD k ByteArray.empty)) := (HB.out.cell hbl).trans hc0
      have HT := hid (tot_snoc hlt rfl)
      have htt := tot_take_le ps (k + 1)
      by_cases h0 : 0 < k
      · have HJ := hid (joined_more h0 hlt rfl)
        obtain ⟨p, hp⟩ : ∃ p, ps.getD k ByteArray.empty = p := ⟨_, rfl⟩
        rw [hp] at hc hc0 HJ HT
        clear hp
        have hps : p.size ≤ 1048576 := by have := HT.out; omega
        have hj3 : (joined (ps.take k)).length + 1 + p.size ≤ 1048576 := by
          have h3 := HJ.out
          rw [h3] at hjl1
          simp at hjl1; omega
        obtain ⟨L, hL⟩ : ∃ L, joined (ps.take k) = L := ⟨_, rfl⟩
        rw [hL] at hown hjl hj3 HJ
        clear hL
        go_wp2_with (at_builtin; refine wpList_append_own _ rfl (.tmp 14) (.tmp 15) 31 rfl w.heap.size 5 i0 (.int .u8 0) 1 1 Tryd.underlying31 hi hz0 hz1 hz2 rfl (by decide) _ _ _ rfl (hown.alloc _) ⟨wr.heap.size, 0, none⟩ 1 1 [.int .u8 44] rfl rfl ?c1 ?c2 ?c3 ?c4 ?c5 ?_)
        case c2 => first | rfl | (intro u hu; simp at hu; subst hu; rfl)
        case c3 => unfold maxLen; omega
        case c4 => omega
        case c5 => first | omega | (simp; omega)
        intro v1 w1 hown1 hgrow1 hnn1
        have HB1 := hid (below_app5 hown hsz HB.out hgrow1)
        have hsz1 := HB1.out.size
        have hc1 : w1.cell? ⟨b, off + k, none⟩ = some (.string p) := (HB1.out.cell hbl).trans hc0
        clear hown hgrow1 HB HN hc hc0 HV
        go_wp2_with (at_builtin; refine Lib.wpList_append_own_string _ rfl (.tmp 17) (.tmp 21) 31 9 rfl w.heap.size 5 i0 Tryd.underlying31 Tryd.underlying9 hi hz0 hz1 hz2 _ _ _ rfl hown1 p rfl ?d3 ?d4 hsz1 ?_)
        case d3 => unfold maxLen; omega
        case d4 => omega
        intro v2 w2 hown2 hgrow2 hnn2
        have R := hid (show w2.ownsRow w.heap.size 5 1 v2 (joined (ps.take (k + 1))).length (bcells (joined (ps.take (k + 1)))) ∧ v2 ≠ .slice none 0 0 ∧ Below w.heap.size w w2 from
          ⟨owns_len hown2 (by rw [HJ.out]; simp; omega) (by rw [HJ.out, bcells_append, bcells_append, List.append_assoc]; rfl), by first | exact hnn2 | exact fun e => hnn1 (hnn2.1 e).1, below_app5' hown1 hsz1 HB1.out hgrow2⟩)
        clear hown2 hgrow2 hnn2 hown1 hnn1 HB1
        go_wp2
        go_roundw
        case rel => exact ⟨v2, k + 1, rfl, by omega, by go_num, R.out⟩
        case measure => simp [intOf]; omega
      · have HJ : Hid (joined (ps.take k) = [] ∧ joined (ps.take (k + 1)) = (ps.getD k ByteArray.empty).data.toList) := by
          obtain rfl : k = 0 := by omega
          exact ⟨rfl, joined_first hlt rfl⟩
        obtain ⟨p, hp⟩ : ∃ p, ps.getD k ByteArray.empty = p := ⟨_, rfl⟩
        rw [hp] at hc hc0 HJ HT
        clear hp
        have hps : p.size ≤ 1048576 := by have := HT.out; omega
        rw [HJ.out.1] at hown
        go_wp2_with (at_builtin; refine Lib.wpList_append_own_string _ rfl (.tmp 17) (.tmp 21) 31 9 rfl w.heap.size 5 i0 Tryd.underlying31 Tryd.underlying9 hi hz0 hz1 hz2 _ _ _ rfl hown p rfl ?d3 ?d4 hsz ?_)
        case d3 => unfold maxLen; first | omega | (simp; omega)
        case d4 => first | omega | (simp; omega)
        intro v2 w2 hown2 hgrow2 hnn2
        have R := hid (show w2.ownsRow w.heap.size 5 1 v2 (joined (ps.take (k + 1))).length (bcells (joined (ps.take (k + 1)))) ∧ v2 ≠ .slice none 0 0 ∧ Below w.heap.size w w2 from
          ⟨owns_len hown2 (by rw [HJ.out.2]; simp) (by rw [HJ.out.2]; rfl), by first | exact hnn2 | exact fun e => HN.out (hnn2.1 e).1, below_app5' hown hsz HB.out hgrow2⟩)
        clear hown2 hgrow2 hnn2 hown HN HB hc hc0 HV
        go_wp2
        go_roundw
        case rel => exact ⟨v2, k + 1, rfl, by omega, by go_num, R.out⟩
        case measure => simp [intOf]; omega
    · have hE : joined (ps.take k) = joined ps := by rw [List.take_of_length_le (by omega)]
      rw [hE] at hown
      clear hE
      rcases hown.2 with ⟨hv, _⟩ | ⟨g, cap', cur, hv, _⟩
      · exact absurd hv HN.out
      · subst hv
        have hconv := conv_own hown
        clear hown HN HV
        go_wp2
        go_ret
        exact ⟨rfl, HB.out⟩
end Go.Proofs.Qxb6600405aDoor
