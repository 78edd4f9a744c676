import Derived.Test.Qxb6600694aDoorWalkD
import Derived.Deep.RegionLaw
namespace Go.Proofs.Qxb6600694aDoor
open Go.RowKit Go.Shelf

/-- 'append' onto a row of the call's own, as one step of a region that draws its order. -/
theorem step_append_own {P : Program} {ops : Array Oper} {o : Oper} {a : Act} {w : World} {K : Act → World → Prop} {Q : Exit → Act → World → Prop} {E : Prop}
    (hg : o.guard = none) (s x : Operand) (t : TypeId) (hop : o.op = Op.call { callee := Callee.builtin Builtin.append, args := #[s, x], argTypes := #[t, t] })
    (base : Nat) (e : TypeId) (i : TypeInfo) (z : Value) (size bytes : Nat) (h1 : P.underlying t = some (.slice e)) (h2 : P.info? e = some i) (h3 : i.zero = some z) (h4 : i.size = size) (h5 : i.bytes = bytes) (h6 : z.cells.size = size) (h7 : 0 < size)
    (v : Value) (n : Nat) (xs : List Value) (hs : a.eval s = v) (hown : w.ownsRow base e size v n xs)
    (ad : Addr) (m c : Nat) (news : List Value) (hx : a.eval x = .slice (some ad) m c) (hn : news.length = m * size) (hc : ∀ j u, news[j]? = some u → w.cell? (ad.add j) = some u) (h1c : ∀ u ∈ news, u.oneCell' = true)
    (b1 : n + m ≤ maxLen) (b2 : (n + m) * bytes ≤ 140737488355328) (hbase : base ≤ w.heap.size)
    (hK : ∀ v' w', w'.ownsRow base e size v' (n + m) (xs ++ news) → w.grownBy w' v.ownBlock → (v' = .slice none 0 0 ↔ v = .slice none 0 0 ∧ m = 0) → K (a.put o.dst v') w') :
    if Region.wanted o (yielded ops a.tmps) = true then Oper.wp P o a w K Q else E := by
  have hw : Region.wanted o (yielded ops a.tmps) = true := by simp [Region.wanted, hg]
  rw [if_pos hw]
  obtain ⟨v', w', hrun, r1, r2, r3⟩ := run_append_own (P := P) w base t o.type e i z size bytes h1 h2 h3 h4 h5 h6 h7 v n xs hown ad m c news hn hc h1c b1 b2 hbase
  unfold Oper.wp
  simp [execOp, hop, resolve, invoke, builtin, hs, hx, hrun, Result.andThen]
  exact hK v' w' r1 r2 r3

theorem info40 : (Tryd.prog.info? 40).map (fun i => (i.zero, i.size, i.bytes)) = some (some (.agg #[.bool false, .string ByteArray.empty]), 2, 24) := by kernel_rfl
def tcells : List (Bool × List UInt8) → List Value
  | [] => []
  | t :: ts => .bool t.1 :: .string ⟨t.2.toArray⟩ :: tcells ts
theorem tcells_snoc (acc : List (Bool × List UInt8)) (t : Bool × List UInt8) : tcells (acc ++ [t]) = tcells acc ++ [.bool t.1, .string ⟨t.2.toArray⟩] := by
  induction acc with
  | nil => rfl
  | cons a acc ih => simp [tcells, ih]
def strLen : Value → Nat
  | .string b => b.size
  | _ => 0
/-- The struct behind the pointer, and the list that it leads to. -/
def tagsAt (w : World) (T : Nat) (v : Value) (acc : List (Bool × List UInt8)) : Prop :=
  w.cell? ⟨T, 0, none⟩ = some (.bool false) ∧ w.cell? ⟨T, 1, none⟩ = some v ∧ w.frozen? ⟨T, 1, none⟩ = false ∧ w.ownsRow (T + 1) 40 2 v acc.length (tcells acc)

theorem tagsAt.below {w w' : World} {T : Nat} {v : Value} {acc : List (Bool × List UInt8)} (h : tagsAt w T v acc) (hT : T < w.heap.size) (hb : Below w.heap.size w w') : tagsAt w' T v acc := by
  obtain ⟨h0, h1, h2, h3⟩ := h
  refine ⟨(hb.cell (p := ⟨T, 0, none⟩) hT).trans h0, (hb.cell (p := ⟨T, 1, none⟩) hT).trans h1, (hb.frozen (p := ⟨T, 1, none⟩) hT).trans h2, h3.1, ?_⟩
  rcases h3.2 with h0 | ⟨g, cap, cur, hv, hB, hg, rest⟩
  · exact .inl h0
  · exact .inr ⟨g, cap, cur, hv, hB, (hb.block g (Array.getElem?_eq_some_iff.1 hg).1).trans hg, rest⟩

theorem cell_two_new (w : World) (x y : Value) (o : Obj) : ∀ j u, [x, y][j]? = some u → ((w.alloc o).alloc (.cells #[x, y] 40)).drew.cell? ((⟨w.heap.size + 1, 0, none⟩ : Addr).add j) = some u := by
  intro j u hj
  match j, hj with
  | 0, hj => simp at hj; subst hj; simp [Addr.add]
  | 1, hj => simp at hj; subst hj; simp [Addr.add]
theorem two_one (wk : Bool) (ob : ByteArray) : ∀ u ∈ [Value.bool wk, .string ob], u.oneCell' = true := by
  intro u hu
  simp at hu
  rcases hu with rfl | rfl <;> rfl
theorem le_max {n : Nat} (h : n + 1 ≤ 1048576) : n + 1 ≤ maxLen := by unfold maxLen; omega
theorem le_bytes {n : Nat} (h : n + 1 ≤ 1048576) : (n + 1) * 24 ≤ 140737488355328 := by omega
theorem own_form {w : World} {B n : Nat} {v : Value} {xs : List Value} (h : w.ownsRow B 40 2 v (n + 1) xs) : ∃ g cap, v = .slice (some ⟨g, 0, none⟩) (n + 1) cap := by
  rcases h.2 with ⟨_, h0⟩ | ⟨g, cap, cur, hv, _⟩
  · omega
  · exact ⟨g, cap, hv⟩
theorem grown_tags {w3 w4 : World} {T : Nat} {v : Value} {n : Nat} {xs : List Value} {o1 o2 : Obj} (h0 : w3.cell? ⟨T, 0, none⟩ = some (.bool false)) (h1 : w3.cell? ⟨T, 1, none⟩ = some v) (hf : w3.frozen? ⟨T, 1, none⟩ = false) (hT : T < w3.heap.size)
    (ho : w3.ownsRow (T + 1) 40 2 v n xs) (hg : ((w3.alloc o1).alloc o2).drew.grownBy w4 v.ownBlock) :
    w4.cell? ⟨T, 0, none⟩ = some (.bool false) ∧ w4.cell? ⟨T, 1, none⟩ = some v ∧ w4.frozen? ⟨T, 1, none⟩ = false := by
  have hb : w4.heap[T]? = w3.heap[T]? := by
    rw [hg.block T (by simp; omega) (fun e => by have := (ho.lt T e.symm).1; omega)]
    exact (heap_alloc_old _ _ (by simp; omega)).trans (heap_alloc_old _ _ hT)
  exact ⟨(World.cell?_of_block (a := ⟨T, 0, none⟩) hb).trans h0, (World.cell?_of_block (a := ⟨T, 1, none⟩) hb).trans h1, (World.frozen?_of_block (a := ⟨T, 1, none⟩) hb).trans hf⟩

theorem tags_stored {w4 : World} {T g cap : Nat} {v : Value} {acc : List (Bool × List UInt8)} {wk : Bool} {o : List UInt8} {ob : ByteArray} (h0 : w4.cell? ⟨T, 0, none⟩ = some (.bool false)) (h1 : w4.cell? ⟨T, 1, none⟩ = some v) (hf : w4.frozen? ⟨T, 1, none⟩ = false)
    (ho : w4.ownsRow (T + 1) 40 2 (.slice (some ⟨g, 0, none⟩) (acc.length + 1) cap) (acc.length + 1) (tcells acc ++ [.bool wk, .string ob])) (e : ⟨o.toArray⟩ = ob) :
    tagsAt (w4.setCell ⟨T, 1, none⟩ (.slice (some ⟨g, 0, none⟩) (acc.length + 1) cap)) T (.slice (some ⟨g, 0, none⟩) (acc.length + 1) cap) (acc ++ [(wk, o)]) := by
  subst e
  refine ⟨?_, ?_, ?_, ?_⟩
  · rw [World.cell?_setCell_other _ _ _ _ (by simp)]; exact h0
  · exact World.cell?_setCell_same _ _ _ h1
  · simp [hf]
  · have := ownsRow_setCell_below ho (a := ⟨T, 1, none⟩) (Nat.lt_succ_self T) (.slice (some ⟨g, 0, none⟩) (acc.length + 1) cap)
    rw [tcells_snoc]
    simpa using this
set_option linter.unusedSimpArgs false
set_option maxRecDepth 20000 in
set_option maxHeartbeats 2000000 in
theorem parse_any (s : ByteArray) (w : World) (hs : s.size ≤ 1048576) :
    Calls Tryd.prog 13 #[.string s] w fun e w' => Below w.heap.size w w' ∧
      ((star s.data.toList = true ∧ ∃ T, e = .returned (.tuple #[.pointer (some ⟨T, 0, none⟩), .bool true]) ∧ w'.cell? ⟨T, 0, none⟩ = some (.bool true) ∧ w'.cell? ⟨T, 1, none⟩ = some (.slice none 0 0)) ∨
       (star s.data.toList = false ∧ M false s.data.toList = none ∧ e = .returned (.tuple #[.pointer none, .bool false])) ∨
       (star s.data.toList = false ∧ ∃ ts T v, M false s.data.toList = some ts ∧ e = .returned (.tuple #[.pointer (some ⟨T, 0, none⟩), .bool true]) ∧ ts.length ≤ 1048576 ∧ tagsAt w' T v ts)) := by
  have c17 := fun w => trim_any s w (by omega)
  obtain ⟨t, ht⟩ : ∃ t : ByteArray, ⟨(Lib.trimS s.data.toList [32, 9]).toArray⟩ = t := ⟨_, rfl⟩
  have htl : t.toList = Lib.trimS s.data.toList [32, 9] := by rw [Lib.toList_data, ← ht]
  simp only [ht] at c17
  clear ht
  by_cases hst : star s.data.toList = true
  · have hte : (t.toList == [42]) = true := by rw [htl]; exact hst
    clear htl
    have HS := hid hst
    clear hst
    go_enter Tryd.func13, Tryd.ntmps13
    go_wp2_with (go_at_call 17; refine (c17 _).mono ?_; rintro e w1 ⟨rfl, hb1⟩)
    go_ret2
    exact ⟨hb1.alloc hb1.size _, .inl ⟨HS.out, _, rfl, by simp, by simp⟩⟩
  · replace hst : star s.data.toList = false := by simpa using hst
    have hte : (t.toList == [42]) = false := by rw [htl]; exact hst
    clear htl
    have HS := hid hst
    clear hst
    obtain ⟨i40, hi40, hz0, hz1, hz2⟩ := info_parts info40
    go_enter Tryd.func13, Tryd.ntmps13
    go_wp2_with (go_at_call 17; refine (c17 _).mono ?_; rintro e w1 ⟨rfl, hb1⟩)
    go_loopw [5] (fun rest wr => ∃ (L : ByteArray) (v : Value) (acc : List (Bool × List UInt8)), rest = .string L ∧ acc.length + L.size ≤ s.size ∧ tagsAt wr w1.heap.size v acc ∧ Below w.heap.size w wr ∧ w1.heap.size < wr.heap.size ∧ M false s.data.toList = R acc (M false L.data.toList)) (fun rest _ => strLen rest)
    case atStart => exact ⟨s, .slice none 0 0, [], rfl, by simp, ⟨by simp, by simp, by simp, World.ownsRow_nil _ _ _ _⟩, hb1.alloc hb1.size _, by simp, (R_start _).symm⟩
    case round =>
      obtain ⟨L, v, acc, rfl, hlen, htags, hbel, hTlt, hM⟩ := hrel
      have c18 := trimLeft_any L wr
      obtain ⟨L1, hL1⟩ : ∃ L1 : ByteArray, ⟨(L.data.toList.dropWhile bl).toArray⟩ = L1 := ⟨_, rfl⟩
      have hl1 : L1.data.toList = L.data.toList.dropWhile bl := by rw [← hL1]
      have hz1' : L1.size ≤ L.size := by
        rw [← size_eq_data L1, ← size_eq_data L, hl1]
        exact (List.dropWhile_suffix _).length_le
      rw [hL1] at c18
      rw [← M_drop false L.data.toList, ← hl1] at hM
      have HM := hid hM
      have HT := hid htags
      have HB := hid hbel
      clear hM htags hbel hL1
      go_wp2_with fail
      refine c18.mono ?_
      rintro e w2 ⟨rfl, hb2⟩
      replace HT := hid (HT.out.below hTlt hb2)
      replace HB := hid (HB.out.trans (hb2.mono HB.out.size))
      replace hTlt : w1.heap.size < w2.heap.size := Nat.lt_of_lt_of_le hTlt hb2.size
      clear hb2 c18
      cases hc1 : L1.data.toList with
      | nil =>
        have he : L1.toList.isEmpty = true := by rw [Lib.toList_data, hc1]; rfl
        have HN : Hid (M false s.data.toList = some acc) := hid (by rw [HM.out, hc1, M_nil]; simp [R])
        clear hc1 hl1
        go_wp2
        go_ret2
        exact ⟨HB.out, .inr (.inr ⟨HS.out, acc, _, v, HN.out, rfl, by omega, HT.out⟩)⟩
      | cons c r =>
        have he : L1.toList.isEmpty = false := by rw [Lib.toList_data, hc1]; rfl
        have hp : 0 < L1.size := by rw [← size_eq_data, hc1]; simp
        have h0 : L1[0] = c := by
          have := drop_cons L1 0 hp
          rw [List.drop_zero, hc1] at this
          simp at this
          exact this.symm
        have hbl : bl c = false := dropWhile_head (hl1.symm.trans hc1)
        cases hcm : ((L1[0].toNat : Int) == 44) with
        | true =>
          have hN : M false s.data.toList = R acc (M false (L1.extract 1 L1.size).data.toList) := by
            rw [Lib.extract_to_end, HM.out, hc1, M_comma false hbl (by rw [← h0]; exact eq44 hcm)]; rfl
          have HN := hid hN
          clear hN hc1 h0 hbl hl1 HM
          go_wp2
          go_roundw
          case rel => exact ⟨_, v, acc, rfl, by simp; omega, HT.out, HB.out, hTlt, HN.out⟩
          case measure => simp [strLen]; omega
        | false =>
          have hcn : (c == 44) = false := by rw [← h0]; exact ne44 hcm
          have c19 := fun w => cut_any L1 w (by omega)
          cases hq : cutQ (if isW L1.data.toList then L1.data.toList.drop 2 else L1.data.toList) with
          | none =>
            have HN : Hid (M false s.data.toList = none) := hid (by
              rw [HM.out, hc1, M_bad hbl hcn (by rw [← hc1]; unfold cutT; rw [hq]; rfl)]; rfl)
            rw [hq] at c19
            simp only [cutRes] at c19
            clear hc1 h0 hbl hl1 HM hcn hq HT
            go_wp2_with fail
            refine (c19 _).mono ?_
            rintro e w3 ⟨rfl, hb3⟩
            replace HB := hid (HB.out.trans (hb3.mono HB.out.size))
            have hsz3 := HB.out.size
            clear hb3 c19
            go_wp2
            go_ret2
            exact ⟨HB.out.alloc hsz3 _, .inr (.inl ⟨HS.out, HN.out, rfl⟩)⟩
          | some x =>
            have hsuf := cutT_suffix hq
            have hlt := cutT_lt L1.data.toList (isW L1.data.toList, x) (by unfold cutT; rw [hq]; rfl)
            have HN : Hid (M false s.data.toList = R (acc ++ [(isW L1.data.toList, x.1)]) (M true x.2)) := hid (by
              rw [HM.out, hc1, M_tag (x := (isW (c :: r), x)) hbl hcn (by rw [← hc1]; unfold cutT; rw [hq]; rfl), R_more])
            rw [hq] at c19
            simp only [cutRes] at c19
            obtain ⟨ob, hob⟩ : ∃ ob : ByteArray, ⟨x.1.toArray⟩ = ob := ⟨_, rfl⟩
            obtain ⟨rs, hrs⟩ : ∃ rs : ByteArray, ⟨x.2.toArray⟩ = rs := ⟨_, rfl⟩
            obtain ⟨wk, hwk⟩ : ∃ wk : Bool, isW L1.data.toList = wk := ⟨_, rfl⟩
            have hrsl : rs.data.toList = x.2 := by rw [← hrs]
            have hrsz : rs.size < L1.size := by
              rw [← size_eq_data rs, ← size_eq_data L1, hrsl]
              exact hlt
            rw [hwk] at c19 HN
            rw [hob, hrs] at c19
            rw [← hrsl] at HN
            have HX := hid hob
            clear hc1 h0 hbl hl1 HM hcn hq hsuf hlt hob hrs hwk hrsl
            go_wp2_with fail
            refine (c19 _).mono ?_
            rintro e w3 ⟨rfl, hb3⟩
            replace HB := hid (HB.out.trans (hb3.mono HB.out.size))
            replace HT := hid (HT.out.below hTlt hb3)
            replace hTlt : w1.heap.size < w3.heap.size := Nat.lt_of_lt_of_le hTlt hb3.size
            have hsz3 := HB.out.size
            clear hb3 c19
            obtain ⟨hT0, hT1, hTf, hown⟩ := HT.out
            have HO := hid hown
            clear hown HT
            have hbase : w1.heap.size + 1 ≤ w3.heap.size := hTlt
            have HL := hid (show acc.length + 1 ≤ 1048576 by omega)
            go_wp2_with fail
            go_region_law (refine step_append_own rfl (.tmp 39) (.tmp 41) 36 rfl (w1.heap.size + 1) 40 i40 (.agg #[.bool false, .string ByteArray.empty]) 2 24 Tryd.underlying36 hi40 hz0 hz1 hz2 rfl (by decide) v acc.length (tcells acc) (by simp [Act.eval, Act.put]) (by exact (((HO.out.alloc _).alloc _).drew)) ⟨w3.heap.size + 1, 0, none⟩ 1 1 [.bool wk, .string ob] (by simp [Act.eval, Act.put]) rfl (by exact cell_two_new _ _ _ _) (by exact two_one _ _) (by exact le_max HL.out) (by exact le_bytes HL.out) (by simp; omega) ?_; intro v4 w4 hown4 hgrow4 hnn4; obtain ⟨k0, k1, kf⟩ := grown_tags hT0 hT1 hTf hTlt HO.out hgrow4; obtain ⟨g4, cap4, hv4⟩ := own_form hown4; subst hv4)
            all_goals
              have HT5 := hid (tags_stored (wk := wk) (o := x.1) k0 k1 kf hown4 HX.out)
              have HB5 := hid (((HB.out.alloc hsz3 _).alloc (by simp; omega) _).drew.grown hgrow4 (by simp; omega) (fun k hk => by have := (HO.out.lt k hk).1; have := hb1.size; omega))
              have hT5 : w1.heap.size < w4.heap.size := by have := hgrow4.size; simp at this; omega
              replace HB5 := hid (HB5.out.setCell (p := ⟨w1.heap.size, 1, none⟩) hb1.size (.slice (some ⟨g4, 0, none⟩) (acc.length + 1) cap4))
              clear hown4 hgrow4 hnn4 k0 k1 kf HB HO hT0 hT1 hTf
              have c18 := trimLeft_any rs
              obtain ⟨L2, hL2⟩ : ∃ L2 : ByteArray, ⟨(rs.data.toList.dropWhile bl).toArray⟩ = L2 := ⟨_, rfl⟩
              have hl2 : L2.data.toList = rs.data.toList.dropWhile bl := by rw [← hL2]
              have hz2' : L2.size ≤ rs.size := by
                rw [← size_eq_data L2, ← size_eq_data rs, hl2]
                exact (List.dropWhile_suffix _).length_le
              simp only [hL2] at c18
              rw [← M_drop true rs.data.toList, ← hl2] at HN
              clear hL2
              go_wp2_with fail
              refine (c18 _).mono ?_
              rintro e w5 ⟨rfl, hb5⟩
              replace HT5 := hid (HT5.out.below (by simp; omega) hb5)
              replace HB5 := hid (HB5.out.trans (hb5.mono HB5.out.size))
              have hT6 : w1.heap.size < w5.heap.size := by have := hb5.size; simp at this; omega
              clear hb5 c18
              cases hc2 : L2.data.toList with
              | nil =>
                have he2 : L2.toList.isEmpty = true := by rw [Lib.toList_data, hc2]; rfl
                have he3 : (L2.toList != []) = false := by rw [Lib.toList_data, hc2]; rfl
                replace HN : Hid (M false s.data.toList = R (acc ++ [(wk, x.1)]) (M false L2.data.toList)) := hid (by rw [HN.out, M_same (.inl hc2)])
                clear hc2 hl2
                go_wp2
                go_roundw
                case rel => exact ⟨L2, _, _, rfl, by simp; omega, HT5.out, HB5.out, hT6, HN.out⟩
                case measure => simp [strLen]; omega
              | cons c2 r2 =>
                have he2 : L2.toList.isEmpty = false := by rw [Lib.toList_data, hc2]; rfl
                have hp2 : 0 < L2.size := by rw [← size_eq_data, hc2]; simp
                have h02 : L2[0] = c2 := by
                  have := drop_cons L2 0 hp2
                  rw [List.drop_zero, hc2] at this
                  simp at this
                  exact this.symm
                have hbl2 : bl c2 = false := dropWhile_head (hl2.symm.trans hc2)
                cases hcm2 : ((L2[0].toNat : Int) == 44) with
                | true =>
                  have hne : ((L2[0].toNat : Int) != 44) = false := by simp [bne, hcm2]
                  have e44 : c2 = 44 := by rw [← h02]; exact beq_iff_eq.1 (eq44 hcm2)
                  replace HN : Hid (M false s.data.toList = R (acc ++ [(wk, x.1)]) (M false L2.data.toList)) := hid (by rw [HN.out, M_same (.inr ⟨r2, by rw [hc2, e44]⟩)])
                  clear hc2 hl2 h02 hbl2 e44
                  go_wp2
                  go_roundw
                  case rel => exact ⟨L2, _, _, rfl, by simp; omega, HT5.out, HB5.out, hT6, HN.out⟩
                  case measure => simp [strLen]; omega
                | false =>
                  have hne : ((L2[0].toNat : Int) != 44) = true := by simp [bne, hcm2]
                  replace HN : Hid (M false s.data.toList = none) := hid (by rw [HN.out, hc2, M_refuse hbl2 (by rw [← h02]; exact ne44 hcm2)]; rfl)
                  clear hc2 hl2 h02 hbl2
                  go_wp2
                  go_ret2
                  exact ⟨HB5.out, .inr (.inl ⟨HS.out, HN.out, rfl⟩)⟩
end Go.Proofs.Qxb6600694aDoor
