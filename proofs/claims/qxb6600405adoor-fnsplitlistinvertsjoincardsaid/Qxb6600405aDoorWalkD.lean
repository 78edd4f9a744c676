import Derived.Test.Qxb6600405aDoorWalkC
import Derived.OwnWalk
import Derived.Deep.QuietTactic
import Derived.BigQuiet
namespace Go.Proofs.Qxb6600405aDoor
open Go.RowKit Go.Shelf

theorem info9 : (Tryd.prog.info? 9).map (fun i => (i.zero, i.size, i.bytes)) = some (some (.string ByteArray.empty), 1, 16) := by kernel_rfl

/-- What the scan has cut so far: k bytes read, the piece in hand begins at t. -/
def cutInv (s : ByteArray) (k t : Nat) (qs : List ByteArray) : Prop :=
  (k ≤ s.size → cutAt 44 s.data.toList = qs.map (·.data.toList) ++ glue (s.extract t k).data.toList (cutAt 44 (s.data.toList.drop k))) ∧
  (¬ k ≤ s.size → cutAt 44 s.data.toList = qs.map (·.data.toList))
theorem cutInv_start (s : ByteArray) : cutInv s 0 0 [] := by
  refine ⟨fun _ => ?_, fun h => absurd (Nat.zero_le _) h⟩
  rw [Lib.extract_data]
  simp [glue_nil]
theorem extract_self (s : ByteArray) (k : Nat) : (s.extract k k).data.toList = [] := by rw [Lib.extract_data]; simp
theorem extract_more (s : ByteArray) (t k : Nat) (ht : t ≤ k) (hk : k < s.size) : (s.extract t (k + 1)).data.toList = (s.extract t k).data.toList ++ [s[k]] := by
  rw [Lib.extract_data, Lib.extract_data]
  have hd : s.data.toList.drop t = (s.data.toList.drop t).take (k - t) ++ (s.data.toList.drop k) := by
    conv => lhs; rw [← List.take_append_drop (k - t) (s.data.toList.drop t)]
    rw [List.drop_drop, Nat.add_sub_cancel' ht]
  have hlen : ((s.data.toList.drop t).take (k - t)).length = k - t := by
    rw [List.length_take, List.length_drop]; simp; omega
  rw [hd, drop_cons s k hk]
  rw [List.take_append, List.take_append, hlen]
  rw [List.take_of_length_le (by omega : ((s.data.toList.drop t).take (k - t)).length ≤ k + 1 - t), List.take_of_length_le (by omega : ((s.data.toList.drop t).take (k - t)).length ≤ k - t)]
  have e1 : k + 1 - t - (k - t) = 1 := by omega
  have e2 : k - t - (k - t) = 0 := by omega
  rw [e1, e2]
  simp
theorem cutInv_hit {s : ByteArray} {k t : Nat} {qs : List ByteArray} (hk : k < s.size) (h : cutInv s k t qs) (hc : ((s[k].toNat : Int) == 44) = true) : cutInv s (k + 1) (k + 1) (qs ++ [s.extract t k]) := by
  refine ⟨fun _ => ?_, fun hn => absurd (by omega) hn⟩
  have hx : s[k] = 44 := by
    have h2 : (s[k].toNat : Int) = 44 := by simpa using hc
    exact UInt8.toNat_inj.1 (by show s[k].toNat = 44; omega)
  rw [h.1 (by omega), drop_cons s k hk, hx, glue_eq, extract_self, glue_nil]
  simp
theorem cutInv_miss {s : ByteArray} {k t : Nat} {qs : List ByteArray} (ht : t ≤ k) (hk : k < s.size) (h : cutInv s k t qs) (hc : ((s[k].toNat : Int) == 44) = false) : cutInv s (k + 1) t qs := by
  refine ⟨fun _ => ?_, fun hn => absurd (by omega) hn⟩
  have hx : s[k] ≠ 44 := by
    intro e
    have h2 : ¬ (s[k].toNat : Int) = 44 := by simpa using hc
    rw [e] at h2; exact h2 rfl
  rw [h.1 (by omega), drop_cons s k hk, glue_ne _ _ _ _ hx, extract_more s t k ht hk]
theorem cutInv_last {s : ByteArray} {k t : Nat} {qs : List ByteArray} (hk : k = s.size) (h : cutInv s k t qs) : cutInv s (k + 1) (k + 1) (qs ++ [s.extract t k]) := by
  refine ⟨fun hn => absurd hn (by omega), fun _ => ?_⟩
  rw [h.1 (by omega), List.drop_eq_nil_of_le (by simp; omega), glue_end]
  simp

theorem holdsS_of_owns {w : World} {base : Nat} {v : Value} {ps : List ByteArray} (h : w.ownsRow base 9 1 v ps.length (ps.map Value.string)) (hn : v ≠ .slice none 0 0) : holdsS w v ps := by
  rcases h.2 with ⟨rfl, _⟩ | ⟨g, cap, cur, rfl, _⟩
  · exact absurd rfl hn
  · refine ⟨g, cap, rfl, fun i hi => ?_⟩
    have := h.cells (g := g) rfl i (.string (ps.getD i ByteArray.empty)) (by rw [List.getElem?_map, List.getD_eq_getElem?_getD, List.getElem?_eq_getElem hi]; rfl)
    by_cases h0 : i = 0
    · subst h0; simpa [Addr.add] using this
    · simpa [Addr.add, h0] using this

theorem owns_snoc {w : World} {base : Nat} {v : Value} {qs : List ByteArray} {x : ByteArray} (h : w.ownsRow base 9 1 v (qs.length + 1) (qs.map Value.string ++ [.string x])) : w.ownsRow base 9 1 v (qs ++ [x]).length ((qs ++ [x]).map Value.string) := by
  simpa using h
theorem below_app {w wr w1 : World} {v : Value} {n : Nat} {xs : List Value} {o : Obj} (hown : wr.ownsRow w.heap.size 9 1 v n xs) (hsz : w.heap.size ≤ wr.heap.size) (hb : Below w.heap.size w wr) (hg : (wr.alloc o).grownBy w1 v.ownBlock) : Below w.heap.size w w1 :=
  (hb.alloc hsz o).grown hg (by simp; omega) (fun k hk => (hown.lt k hk).1)

set_option maxHeartbeats 1000000 in
theorem model_some (s : ByteArray) (w : World) (he : 1 ≤ s.size) (hs : s.size ≤ 1048576) :
    Calls Tryd.prog 7 #[.string s] w fun e w' => Below w.heap.size w w' ∧ ∃ qs : List ByteArray, qs.map (·.data.toList) = cutAt 44 s.data.toList ∧ ((firstBad qs = none ∧ ∃ v, e = .returned (.tuple #[v, .string ByteArray.empty, .bool true]) ∧ holdsS w' v qs) ∨
      (∃ p, firstBad qs = some p ∧ e = .returned (.tuple #[.slice none 0 0, .string p, .bool false]))) := by
  obtain ⟨i0, hi, hz0, hz1, hz2⟩ := info_parts info9
  have hg0 : ((s.size : Int) == 0) = false := beq_eq_false_iff_ne.2 (by omega)
  go_enter Tryd.func7, Tryd.ntmps7
  go_wp2
  go_loopw [5, 6, 7] (fun v0 st i wr => ∃ (v : Value) (k t : Nat) (qs : List ByteArray), v = v0 ∧ k ≤ s.size + 1 ∧ i = .int .i64 k ∧ st = .int .i64 t ∧ t ≤ k ∧ qs.length ≤ k ∧ wr.ownsRow w.heap.size 9 1 v qs.length (qs.map Value.string) ∧ v ≠ .slice none 0 0 ∧ Below w.heap.size w wr ∧ cutInv s k t qs)
    (fun _ _ i _ => s.size + 1 - (intOf i).toNat)
  case atStart => exact ⟨_, 0, 0, [], rfl, Nat.zero_le _, rfl, rfl, Nat.le_refl _, Nat.le_refl _, World.ownsRow_made _ _ 0 (Nat.le_refl _) (Nat.zero_le _) rfl, by simp, (Below.refl _ _).alloc (Nat.le_refl _) _, cutInv_start s⟩
  case round =>
    obtain ⟨v, k, t, qs, rfl, hk, rfl, rfl, ht, hq, hown, hnn, hb, hinv⟩ := hrel
    have HI : Hid (cutInv s k t qs) := hinv
    have HB : Hid (Below w.heap.size w wr) := hb
    have HN : Hid (v ≠ .slice none 0 0) := hnn
    have hsz := hb.size
    clear hinv hb hnn
    by_cases h1 : k < s.size
    · have hg : ((k : Int) == (s.size : Int)) = false := beq_eq_false_iff_ne.2 (by omega)
      go_wp2_with (at_builtin; refine wpList_append_own _ rfl _ _ 23 rfl w.heap.size 9 i0 (.string ByteArray.empty) 1 16 Tryd.underlying23 hi hz0 hz1 hz2 rfl (by decide) _ _ _ rfl (hown.alloc _) ⟨wr.heap.size, 0, none⟩ 1 1 [.string (s.extract t k)] rfl rfl ?c1 ?c2 ?c3 ?c4 ?c5 ?_)
      case c1 => exact cell_one_new _ _ _
      case c2 => intro u hu; simp at hu; subst hu; rfl
      case c3 => unfold maxLen; omega
      case c4 => omega
      case c5 => simp; omega
      · intro v' w1 hown' hgrow hnn'
        have hcm : ((s[k].toNat : Int) == 44) = true := by assumption
        have R : Hid (w1.ownsRow w.heap.size 9 1 v' (qs ++ [s.extract t k]).length ((qs ++ [s.extract t k]).map Value.string) ∧ v' ≠ .slice none 0 0 ∧ Below w.heap.size w w1 ∧ cutInv s (k + 1) (k + 1) (qs ++ [s.extract t k])) :=
          ⟨owns_snoc hown', hnn', below_app hown hsz HB.out hgrow, cutInv_hit h1 HI.out hcm⟩
        clear hown' hgrow hown hnn' HI HB HN
        go_wp2
        go_roundw
        case rel => exact ⟨v', k + 1, k + 1, _, rfl, by omega, by go_num, by go_num, Nat.le_refl _, by simp; omega, R.out⟩
        case measure => simp [intOf]; omega
      · go_roundw
        case rel => exact ⟨v, k + 1, t, qs, rfl, by omega, by go_num, rfl, by omega, by omega, hown, HN.out, HB.out, cutInv_miss ht h1 HI.out ‹_›⟩
        case measure => simp [intOf]; omega
    · by_cases h2 : k = s.size
      · have hg : ((k : Int) == (s.size : Int)) = true := by simp [h2]
        have h3 : k ≤ s.size := by omega
        have HE : Hid (k = s.size) := h2
        clear h2
        go_wp2_with (at_builtin; refine wpList_append_own _ rfl _ _ 23 rfl w.heap.size 9 i0 (.string ByteArray.empty) 1 16 Tryd.underlying23 hi hz0 hz1 hz2 rfl (by decide) _ _ _ rfl (hown.alloc _) ⟨wr.heap.size, 0, none⟩ 1 1 [.string (s.extract t k)] rfl rfl ?c1 ?c2 ?c3 ?c4 ?c5 ?_)
        case c1 => exact cell_one_new _ _ _
        case c2 => intro u hu; simp at hu; subst hu; rfl
        case c3 => unfold maxLen; omega
        case c4 => omega
        case c5 => simp; omega
        · intro v' w1 hown' hgrow hnn'
          have R : Hid (w1.ownsRow w.heap.size 9 1 v' (qs ++ [s.extract t k]).length ((qs ++ [s.extract t k]).map Value.string) ∧ v' ≠ .slice none 0 0 ∧ Below w.heap.size w w1 ∧ cutInv s (k + 1) (k + 1) (qs ++ [s.extract t k])) :=
            ⟨owns_snoc hown', hnn', below_app hown hsz HB.out hgrow, cutInv_last HE.out HI.out⟩
          clear hown' hgrow hown hnn' HI HB HN
          go_wp2
          go_roundw
          case rel => exact ⟨v', k + 1, k + 1, _, rfl, by omega, by go_num, by go_num, Nat.le_refl _, by simp; omega, R.out⟩
          case measure => simp [intOf]; omega
      · have HC : Hid (qs.map (·.data.toList) = cutAt 44 s.data.toList) := (HI.out.2 (by omega)).symm
        obtain ⟨B, cap, hv, hcell⟩ := holdsS_of_owns hown HN.out
        have hle : qs.length ≤ 1048577 := by omega
        subst hv
        have HS : Hid (∀ i, i < qs.length → wr.cell? ⟨B, i, none⟩ = some (.string (qs.getD i ByteArray.empty))) := hcell
        have hsz : ∀ i, i < qs.length → (qs.getD i ByteArray.empty).size ≤ 1048576 := fun i hi => by
          have hm : (qs.getD i ByteArray.empty).data.toList ∈ cutAt 44 s.data.toList := by
            rw [← HC.out]
            exact List.mem_map.2 ⟨_, by rw [getD_at hi]; exact List.getElem_mem hi, rfl⟩
          have := cutAt_len 44 _ _ hm
          have e1 : (qs.getD i ByteArray.empty).data.toList.length = (qs.getD i ByteArray.empty).size := by simp
          have e2 : s.data.toList.length = s.size := by simp
          omega
        have HZ : Hid (∀ i, i < qs.length → (qs.getD i ByteArray.empty).size ≤ 1048576) := hsz
        have hk3 : s.size < k := by omega
        have hk4 : ¬ k ≤ s.size := by omega
        clear hcell hown HN HI hsz h1 h2
        go_wp2
        go_loop [8] (fun i => ∃ j : Nat, j ≤ qs.length ∧ i = .int .i64 j ∧ firstBad (qs.take j) = none) (fun i => qs.length - (intOf i).toNat)
        case atStart => exact ⟨0, Nat.zero_le _, rfl, rfl⟩
        case round =>
          obtain ⟨j, hj, rfl, ha⟩ := hrel
          have HA : Hid (firstBad (qs.take j) = none) := ha
          clear ha
          by_cases hlt : j < qs.length
          · have hc := HS.out j hlt
            have hpz := HZ.out j hlt
            obtain ⟨p, hp⟩ : ∃ p, qs.getD j ByteArray.empty = p := ⟨_, rfl⟩
            rw [hp] at hc hpz
            have HP : Hid (qs.getD j ByteArray.empty = p) := hp
            clear hp
            go_wp2_with (go_at_call 13; refine (validModel_any _ _ (by omega)).mono ?_; rintro e w' ⟨rfl, rfl⟩)
            · have hbad : (!vB p) = true := by assumption
              go_quiet (fail)
              go_wp2
              go_ret3
              exact ⟨below_drewN HB.out _, qs, HC.out, .inr ⟨p, bad_at hlt HP.out HA.out hbad, rfl⟩⟩
            · have hok : (!vB p) = false := by assumption
              go_round
              case rel => exact ⟨j + 1, by omega, by go_num, bad_more hlt HP.out HA.out hok⟩
              case measure => simp [intOf]; omega
          · go_wp2
            go_ret3
            refine ⟨HB.out, qs, HC.out, .inl ⟨?_, _, rfl, B, _, rfl, HS.out⟩⟩
            have := HA.out
            rwa [List.take_of_length_le (by omega)] at this
end Go.Proofs.Qxb6600405aDoor
