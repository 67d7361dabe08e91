/-
  The walk of groupModel.
-/
import Derived.Test.Qxb6605318aDrop
import Derived.Test.Qxb6605318aPlain3
namespace Go.Proofs.Qxb6605318a
open Go.RowKit

theorem rev_at {W : ByteArray} {q j : Nat} (hq : q + j + 1 = W.size) : W.data.toList.reverse.getD j 0 = W[q]'(by omega) := by
  have hl : W.data.toList.length = W.size := (Lib.size_eq W).symm
  rw [List.getD_eq_getElem?_getD, List.getElem?_reverse (by omega)]
  have : W.data.toList.length - 1 - j = q := by omega
  rw [this, Lib.data_getElem? W q (by omega)]
  rfl
theorem rv_sep {W : ByteArray} {q j : Nat} (hq : q + j + 1 = W.size) (h : 0 < j ∧ j % 3 = 0) {w : World} {b : Nat} {v : Value} (ho : Own w b 5 v (rv W.data.toList.reverse j ++ [44] ++ [W[q]'(by omega)])) : Hid (Own w b 5 v (rv W.data.toList.reverse (j + 1))) := by
  show Own _ _ _ _ _
  unfold rv sep
  rw [if_pos h, rev_at hq]
  exact ho
theorem rv_nosep {W : ByteArray} {q j : Nat} (hq : q + j + 1 = W.size) (h : ¬ (0 < j ∧ j % 3 = 0)) {w : World} {b : Nat} {v : Value} (ho : Own w b 5 v (rv W.data.toList.reverse j ++ [W[q]'(by omega)])) : Hid (Own w b 5 v (rv W.data.toList.reverse (j + 1))) := by
  show Own _ _ _ _ _
  unfold rv sep
  rw [if_neg h, rev_at hq, List.append_nil]
  exact ho
theorem rev_take {R : List UInt8} {q t : Nat} (hq : q + t + 1 = R.length) : R.reverse.take (t + 1) = R.reverse.take t ++ [R[q]'(by omega)] := by
  rw [List.take_succ_eq_append_getElem (by simp; omega)]
  congr 2
  rw [List.getElem_reverse]
  congr 1
  omega

theorem no_dot {l : List UInt8} (hn : ∀ i, i < l.length → l[i]? ≠ some 46) : Lib.indexByte l 46 = -1 := by
  have hge := Lib.indexByte_ge l 46
  by_cases h1 : Lib.indexByte l 46 = -1
  · exact h1
  · obtain ⟨i, hi⟩ : ∃ i : Nat, Lib.indexByte l 46 = (i : Int) := ⟨(Lib.indexByte l 46).toNat, by omega⟩
    obtain ⟨h2, h3⟩ := Lib.indexByte_some hi
    exact absurd h2 (hn i (List.getElem?_eq_some_iff.1 h2).1)
theorem dot_idx {l : List UInt8} {k : Nat} (h : l[k]? = some 46) (hn : ∀ i, i < k → l[i]? ≠ some 46) : Lib.indexByte l 46 = (k : Int) := by
  have hge := Lib.indexByte_ge l 46
  by_cases h1 : Lib.indexByte l 46 = -1
  · exact absurd h (Lib.indexByte_none h1 k)
  · obtain ⟨i, hi⟩ : ∃ i : Nat, Lib.indexByte l 46 = (i : Int) := ⟨(Lib.indexByte l 46).toNat, by omega⟩
    obtain ⟨h2, h3⟩ := Lib.indexByte_some hi
    rw [hi]
    rcases Nat.lt_trichotomy i k with hl | hl | hl
    · exact absurd h2 (hn i hl)
    · rw [hl]
    · exact absurd h (h3 k hl)

/-- The end of the model's text. -/
theorem model_eq {text : List UInt8} {d W F : List UInt8} {P : Bool} {s : List UInt8} (hs : sgn text = s) (hd : d = Lib.trimPrefix text [45]) (hc : dotCut d = (W, F, P)) :
    s ++ (rv W.reverse W.length).reverse ++ (if P = true then 46 :: F else []) = groupL text := by
  unfold groupL
  rw [← hd, hc, hs, rv_whole W.length W (Nat.le_refl _)]

set_option maxHeartbeats 8000000 in
theorem gm_minus (text d : ByteArray) (w : World) (hs : text.size ≤ 1048576) (h0 : 0 < text.size) (hd0 : ((text[0].toNat : Int) == 45) = true) (HD : Hid (text.extract 1 text.size = d)) (HS : Hid (sgn text.data.toList = [45])) (HDL : Hid (d.data.toList = Lib.trimPrefix text.data.toList [45])) :
    Calls Try.prog 19 #[.string text] w fun e w' => (∃ v', e = .returned v' ∧ Own w' w.heap.size 5 v' (groupL text.data.toList)) ∧ Below w.heap.size w w' := by
  have hds : d.size ≤ 1048576 := by have := congrArg ByteArray.size HD.out; simp at this; omega
  have h0' : (0 : Int) < (text.size : Int) := by omega
  obtain ⟨i0, hi, hz0, hz1, hz2⟩ := info_parts Try.info5
  go_enter Try.func19, Try.ntmps19
  go_wp2_with (at_builtin; refine wpList_append_bytes _ rfl (.tmp 22) (.tmp 23) 26 26 rfl w.heap.size 5 bt _ [] rfl (World.ownsRow_nil _ _ _ _) _ rfl [45] (src_one _ Try.underlying26 w.heap.size 1 45 (by simp)) (by simp) (by simp) ?_; intro v1 w1 hO1 hG1)
  rw [HD.out]
  have HV1 : Hid (Own w1 w.heap.size 5 v1 [45]) := hO1
  have HB1 : Hid (Below w.heap.size w w1) := (((Grow.refl w (.slice none 0 0)).alloc _).trans hG1).below (Nat.le_refl _) (by intro k hk; simp [Value.ownBlock] at hk)
  clear hO1 hG1 hd0
  go_loop [5, 6, 7, 8] (fun v5 v6 v7 iv => ∃ k : Nat, k ≤ d.size ∧ v5 = .string d ∧ v6 = .string ⟨#[]⟩ ∧ v7 = .bool false ∧ iv = .int .i64 k ∧ Hid (∀ i, i < k → d.data.toList[i]? ≠ some 46)) (fun _ _ _ iv => d.size - (intOf iv).toNat)
  case atStart => exact ⟨0, Nat.zero_le _, rfl, rfl, rfl, rfl, fun i h0 => by omega⟩
  case round =>
    obtain ⟨k, hk, rfl, rfl, rfl, rfl, HK⟩ := hrel
    by_cases hltk : k < d.size
    · by_cases heq : d[k] = 46
      · have hd2 : ((d[k].toNat : Int) == 46) = true := by rw [heq]; rfl
        obtain ⟨W, hW⟩ : ∃ W, W = d.extract 0 k := ⟨_, rfl⟩
        obtain ⟨F, hF⟩ : ∃ F, F = d.extract (k + 1) d.size := ⟨_, rfl⟩
        have HC : Hid (dotCut d.data.toList = (W.data.toList, F.data.toList, true)) := by
          show _ = _
          rw [dotCut_some (dot_idx (by rw [Lib.data_getElem? d k hltk, heq]) HK.out), hW, hF]
          rw [Lib.extract_data, Lib.extract_data, List.take_of_length_le (l := d.data.toList.drop (k + 1)) (by simp)]
          simp
        have hFs : F.size ≤ d.size := by have := congrArg ByteArray.size hF; simp at this; omega
        clear heq HK
        go_wp2_with (at_make; refine wpList_make_own w1 rfl _ (.tmp 50) 26 rfl (w1).heap.size 5 i0 (.int .u8 0) 1 Try.underlying26 hi hz0 hz1 .i64 .i64 _ (k + k / 3) rfl rfl (by omega) (by rw [hz2]; omega) (by unfold maxLen; omega) (Nat.le_refl _) ?_; intro w2 hR2 hGr2)
        rw [← hW, ← hF]
        have hLW1 : W.size ≤ k := by have := congrArg ByteArray.size hW; simp at this; omega
        have hLW2 : k ≤ W.size := by have := congrArg ByteArray.size hW; simp at this; omega
        clear hW hF hd2
        have hR2' : Own w2 (w1).heap.size 5 (.slice (some ⟨(w1).heap.size, 0, none⟩) 0 (k + k / 3)) [] := hR2
        have HR2 : Hid (Own w2 (w1).heap.size 5 (.slice (some ⟨(w1).heap.size, 0, none⟩) 0 (k + k / 3)) []) := hR2'
        have HV2 : Hid (Own w2 w.heap.size 5 v1 [45]) := World.ownsRow.kept HV1.out hGr2 (by cases hv : Value.ownBlock v1 with | none => exact .inl rfl | some k => exact .inr (by simp))
        have hs2 := hGr2.size
        have hW1 := HB1.out.size
        have HB2 : Hid (Below w.heap.size w w2) := HB1.out.trans ⟨hGr2.os, hGr2.tape, hGr2.output, hGr2.size, fun k hk => hGr2.block k (by omega) (by simp)⟩
        have HLT : Hid (∀ k, Value.ownBlock v1 = some k → k < (w1).heap.size) := HV1.out.lt
        clear hR2 hR2' hGr2 HV1 HB1
        go_loopw [9, 10, 11] (fun rvv nv iv wr => ∃ j : Nat, j ≤ k ∧ nv = .int .i64 j ∧ iv = .int .i64 ((k : Int) - 1 - (j : Int)) ∧ Hid (Own wr (w1).heap.size 5 rvv (rv W.data.toList.reverse j)) ∧ Hid (Grow w2 (.slice (some ⟨(w1).heap.size, 0, none⟩) 0 (k + k / 3)) wr rvv)) (fun _ nv _ _ => k - (intOf nv).toNat)
        case atStart => exact ⟨0, Nat.zero_le _, rfl, by go_num, HR2, Grow.refl _ _⟩
        case round =>
          obtain ⟨j, hj, rfl, rfl, HO3, HG3⟩ := hrel
          clear HR2
          have hgs := HG3.out.by_.size
          have hrl := rv_len W.data.toList.reverse j
          by_cases hlt : j < k
          · obtain ⟨q, hq⟩ : ∃ q : Nat, (k : Int) - 1 - (j : Int) = (q : Int) := ⟨k - 1 - j, by omega⟩
            rw [hq]
            have HQ : Hid (q + j + 1 = W.size) := by show _ = _; omega
            have hqW : q < W.size := by omega
            have HQ2 : Hid ((k : Int) - 1 - (j : Int) = (q : Int)) := hq
            clear hq
            by_cases hsep : 0 < j ∧ j % 3 = 0
            · have hj0 : (0 : Int) < (j : Int) := by omega
              have hmod : ((j : Int) % 3 == 0) = true := by simp; omega
              have HS : Hid (0 < j ∧ j % 3 = 0) := hsep
              clear hsep
              go_wp2_with (first
                | (at_builtin; refine wpList_append_bytes _ rfl (.tmp 66) (.tmp 67) 26 26 rfl (w1).heap.size 5 bt _ _ rfl (HO3.out.alloc _) _ rfl [44] (src_one _ Try.underlying26 wr.heap.size 1 44 (by simp)) (by simp; omega) (by simp; omega) ?_; intro v4 w4 hO4 hG4)
                | (at_builtin; refine wpList_append_bytes _ rfl (.tmp 69) (.tmp 73) 26 26 rfl (w1).heap.size 5 bt v4 _ rfl (hO4.alloc _) _ rfl [W[q]] (src_one _ Try.underlying26 w4.heap.size 1 W[q] (by simp)) (by simp; omega) (by have := hG4.by_.size; simp at this ⊢; omega) ?_; intro v5 w5 hO5 hG5))
              have HO5 := rv_sep HQ.out HS.out hO5
              have HG5 : Hid (Grow w2 (.slice (some ⟨(w1).heap.size, 0, none⟩) 0 (k + k / 3)) w5 v5) := HG3.out.trans (((Grow.refl _ _).alloc _).trans (hG4.trans (((Grow.refl _ _).alloc _).trans hG5)))
              clear hO4 hG4 hO5 hG5 HO3 HG3
              go_wp2
              go_roundw
              case rel => exact ⟨j + 1, by omega, by go_num, by have := HQ2.out; go_num, HO5, HG5⟩
              case measure => simp [intOf]; omega
            · have HS : Hid (¬ (0 < j ∧ j % 3 = 0)) := hsep
              by_cases hj0 : 0 < j
              · have hj0' : (0 : Int) < (j : Int) := by omega
                have hmod : ((j : Int) % 3 == 0) = false := by simp; omega
                clear hsep
                go_wp2_with (at_builtin; refine wpList_append_bytes _ rfl (.tmp 69) (.tmp 73) 26 26 rfl (w1).heap.size 5 bt _ _ rfl (HO3.out.alloc _) _ rfl [W[q]] (src_one _ Try.underlying26 wr.heap.size 1 W[q] (by simp)) (by simp; omega) (by simp; omega) ?_; intro v5 w5 hO5 hG5)
                have HO5 := rv_nosep HQ.out HS.out hO5
                have HG5 : Hid (Grow w2 (.slice (some ⟨(w1).heap.size, 0, none⟩) 0 (k + k / 3)) w5 v5) := HG3.out.trans (((Grow.refl _ _).alloc _).trans hG5)
                clear hO5 hG5 HO3 HG3
                go_wp2
                go_roundw
                case rel => exact ⟨j + 1, by omega, by go_num, by have := HQ2.out; go_num, HO5, HG5⟩
                case measure => simp [intOf]; omega
              · have hj0' : decide ((0 : Int) < (j : Int)) = false := by simp; omega
                clear hsep
                go_wp2_with (at_builtin; refine wpList_append_bytes _ rfl (.tmp 69) (.tmp 73) 26 26 rfl (w1).heap.size 5 bt _ _ rfl (HO3.out.alloc _) _ rfl [W[q]] (src_one _ Try.underlying26 wr.heap.size 1 W[q] (by simp)) (by simp; omega) (by simp; omega) ?_; intro v5 w5 hO5 hG5)
                have HO5 := rv_nosep HQ.out HS.out hO5
                have HG5 : Hid (Grow w2 (.slice (some ⟨(w1).heap.size, 0, none⟩) 0 (k + k / 3)) w5 v5) := HG3.out.trans (((Grow.refl _ _).alloc _).trans hG5)
                clear hO5 hG5 HO3 HG3
                go_wp2
                go_roundw
                case rel => exact ⟨j + 1, by omega, by go_num, by have := HQ2.out; go_num, HO5, HG5⟩
                case measure => simp [intOf]; omega
          · have hjL : j = W.size := by omega
            obtain ⟨R, hR⟩ : ∃ R, R = rv W.data.toList.reverse j := ⟨_, rfl⟩
            have HR : Hid (R = rv W.data.toList.reverse W.data.toList.length) := by show _ = _; rw [hR, hjL, Lib.size_eq]
            rw [← hR] at HO3 hrl
            have HVr : Hid (Own wr w.heap.size 5 v1 [45]) := HV2.out.kept HG3.out (by
              cases hv : Value.ownBlock v1 with
              | none => exact .inl rfl
              | some k =>
                refine .inr fun e => ?_
                have := HLT.out k hv
                simp [Value.ownBlock] at e
                omega)
            have HBr : Hid (Below w.heap.size w wr) := HB2.out.trans (HG3.out.below (by have := HB2.out.size; omega) (by intro k hk; simp [Value.ownBlock] at hk; omega))
            obtain ⟨a9, cap9, hu9, _⟩ := HO3.out.shape
            have HNE : Hid (Value.ownBlock (.slice a9 R.length cap9) = none ∨ Value.ownBlock (.slice a9 R.length cap9) ≠ Value.ownBlock v1) := by
              cases hv : Value.ownBlock (.slice a9 R.length cap9) with
              | none => exact .inl rfl
              | some k =>
                refine .inr fun e => ?_
                have h1 := HO3.out.ge k (by rw [hu9]; exact hv)
                have h2 := HLT.out k e.symm
                omega
            subst hu9
            clear hR HV2 HB2 HG3 hjL
            have hjneg : ¬ (0 : Int) ≤ (k : Int) - 1 - (j : Int) := by omega
            go_wp2_with fail
            go_loopw [3, 12] (fun ov iv wx => ∃ t : Nat, t ≤ R.length ∧ iv = .int .i64 ((R.length : Int) - 1 - (t : Int)) ∧ Hid (Own wx w.heap.size 5 ov ([45] ++ R.reverse.take t)) ∧ Hid (Grow wr v1 wx ov)) (fun _ iv _ => (intOf iv + 1).toNat)
            case atStart => exact ⟨0, Nat.zero_le _, by go_num, by show Own _ _ _ _ _; simpa using HVr.out, Grow.refl _ _⟩
            case round =>
              obtain ⟨t, htR, rfl, HO6, HG6⟩ := hrel
              have hg6 := HG6.out.by_.size
              have HO7 := HO3.out.kept HG6.out HNE.out
              have hsg : ([45] : List UInt8).length ≤ 1 := by decide
              by_cases htl : t < R.length
              · obtain ⟨q, hq⟩ : ∃ q : Nat, (R.length : Int) - 1 - (t : Int) = (q : Int) := ⟨R.length - 1 - t, by omega⟩
                rw [hq]
                have hqR : q < R.length := by omega
                have HQ : Hid (q + t + 1 = R.length) := by show _ = _; omega
                have HQ2 : Hid ((R.length : Int) - 1 - (t : Int) = (q : Int)) := hq
                clear hq
                obtain ⟨x, hx⟩ : ∃ x, R[q] = x := ⟨_, rfl⟩
                obtain ⟨a9', cap9', hv9, hrd⟩ := HO7.rd
                obtain ⟨g9, hg9, hc9⟩ := hrd q x (by rw [List.getElem?_eq_getElem hqR, hx])
                injection hv9 with h91 h92 h93
                rw [← h91] at hg9
                subst hg9
                have HX : Hid (R[q] = x) := hx
                clear hrd h91 h92 h93 hx HO7
                go_wp2_with (at_builtin; refine wpList_append_bytes _ rfl (.tmp 84) (.tmp 89) 26 26 rfl w.heap.size 5 bt _ _ rfl (HO6.out.alloc _) _ rfl [x] (src_one _ Try.underlying26 wr.heap.size 1 x (by simp)) (by simp; omega) (by have := HBr.out.size; simp; omega) ?_; intro v8 w8 hO8 hG8)
                have HO8 : Hid (Own w8 w.heap.size 5 v8 ([45] ++ R.reverse.take (t + 1))) := by
                  show Own _ _ _ _ _
                  rw [rev_take HQ.out, HX.out, ← List.append_assoc]
                  exact hO8
                have HG8 := HG6.out.trans (((Grow.refl _ _).alloc _).trans hG8)
                have HG8' : Hid (Grow _ _ w8 v8) := HG8
                clear hO8 hG8 HO6 HG6 HG8
                go_wp2
                go_roundw
                case rel => exact ⟨t + 1, by omega, by have := HQ2.out; go_num, HO8, HG8'⟩
                case measure => simp [intOf]
              · have htneg : ¬ (0 : Int) ≤ (R.length : Int) - 1 - (t : Int) := by omega
                have HT : Hid (t = R.length) := by show _ = _; omega
                have HO9 : Hid (Own wr w.heap.size 5 u3 ([45] ++ R.reverse)) := by
                  show Own _ _ _ _ _
                  have := HO6.out
                  rwa [HT.out, List.take_of_length_le (by simp)] at this
                have HB9 : Hid (Below w.heap.size w wr) := HBr.out.trans (HG6.out.below HBr.out.size HVr.out.ge)
                have hb9 := HB9.out.size
                clear HO6 HG6 HO7
                go_wp2_with (first
                  | (at_builtin; refine wpList_append_bytes _ rfl (.tmp 92) (.tmp 93) 26 26 rfl w.heap.size 5 bt _ _ rfl (HO9.out.alloc _) _ rfl [46] (src_one _ Try.underlying26 wr.heap.size 1 46 (by simp)) (by simp; omega) (by simp; omega) ?_; intro va wa hOa hGa)
                  | (at_builtin; refine wpList_append_bytes _ rfl (.tmp 95) (.tmp 96) 26 9 rfl w.heap.size 5 bt va _ rfl hOa _ rfl _ (src_str _ Try.underlying9 _) (by simp; omega) (by have := hGa.by_.size; simp at this; omega) ?_; intro vb wb hOb hGb))
                have HOb : Hid (Own wb w.heap.size 5 vb ([45] ++ R.reverse ++ [46] ++ F.data.toList)) := hOb
                have HBb : Hid (Below w.heap.size w wb) := HB9.out.trans ((((Grow.refl _ _).alloc _).trans (hGa.trans hGb)).below hb9 HO9.out.ge)
                clear hOa hGa hOb hGb
                go_wp2
                go_ret
                exact ⟨⟨_, rfl, by rw [← model_eq HS.out HDL.out HC.out, ← HR.out]; simpa using HOb.out⟩, HBb.out⟩
      · have hd2 : ((d[k].toNat : Int) == 46) = false := by
          simp; intro h; exact heq (UInt8.toNat_inj.1 (by simpa using (by omega : d[k].toNat = 46)))
        have HE : Hid (d.data.toList[k]? ≠ some 46) := by show _ ≠ _; rw [Lib.data_getElem? d k hltk]; intro e; exact heq (Option.some.inj e)
        clear heq
        go_wp2
        go_round
        case rel => exact ⟨k + 1, by omega, rfl, rfl, rfl, by go_num, fun i hi => if e : i = k then by subst e; exact HE.out else HK.out i (by omega)⟩
        case measure => simp [intOf]; omega
    · have HC : Hid (dotCut d.data.toList = (d.data.toList, [], false)) := dotCut_none (no_dot (fun i hi => HK.out i (by rw [← Lib.size_eq] at hi; omega)))
      clear HK
      go_wp2_with (at_make; refine wpList_make_own w1 rfl _ (.tmp 50) 26 rfl (w1).heap.size 5 i0 (.int .u8 0) 1 Try.underlying26 hi hz0 hz1 .i64 .i64 _ (d.size + d.size / 3) rfl rfl (by omega) (by rw [hz2]; omega) (by unfold maxLen; omega) (Nat.le_refl _) ?_; intro w2 hR2 hGr2)
      have hR2' : Own w2 (w1).heap.size 5 (.slice (some ⟨(w1).heap.size, 0, none⟩) 0 (d.size + d.size / 3)) [] := hR2
      have HR2 : Hid (Own w2 (w1).heap.size 5 (.slice (some ⟨(w1).heap.size, 0, none⟩) 0 (d.size + d.size / 3)) []) := hR2'
      have HV2 : Hid (Own w2 w.heap.size 5 v1 [45]) := World.ownsRow.kept HV1.out hGr2 (by cases hv : Value.ownBlock v1 with | none => exact .inl rfl | some k => exact .inr (by simp))
      have hs2 := hGr2.size
      have hW1 := HB1.out.size
      have HB2 : Hid (Below w.heap.size w w2) := HB1.out.trans ⟨hGr2.os, hGr2.tape, hGr2.output, hGr2.size, fun k hk => hGr2.block k (by omega) (by simp)⟩
      have HLT : Hid (∀ k, Value.ownBlock v1 = some k → k < (w1).heap.size) := HV1.out.lt
      clear hR2 hR2' hGr2 HV1 HB1
      go_loopw [9, 10, 11] (fun rvv nv iv wr => ∃ j : Nat, j ≤ d.size ∧ nv = .int .i64 j ∧ iv = .int .i64 ((d.size : Int) - 1 - (j : Int)) ∧ Hid (Own wr (w1).heap.size 5 rvv (rv d.data.toList.reverse j)) ∧ Hid (Grow w2 (.slice (some ⟨(w1).heap.size, 0, none⟩) 0 (d.size + d.size / 3)) wr rvv)) (fun _ nv _ _ => d.size - (intOf nv).toNat)
      case atStart => exact ⟨0, Nat.zero_le _, rfl, by go_num, HR2, Grow.refl _ _⟩
      case round =>
        obtain ⟨j, hj, rfl, rfl, HO3, HG3⟩ := hrel
        clear HR2
        have hgs := HG3.out.by_.size
        have hrl := rv_len d.data.toList.reverse j
        by_cases hlt : j < d.size
        · obtain ⟨q, hq⟩ : ∃ q : Nat, (d.size : Int) - 1 - (j : Int) = (q : Int) := ⟨d.size - 1 - j, by omega⟩
          rw [hq]
          have HQ : Hid (q + j + 1 = d.size) := by show _ = _; omega
          have hqW : q < d.size := by omega
          have HQ2 : Hid ((d.size : Int) - 1 - (j : Int) = (q : Int)) := hq
          clear hq
          by_cases hsep : 0 < j ∧ j % 3 = 0
          · have hj0 : (0 : Int) < (j : Int) := by omega
            have hmod : ((j : Int) % 3 == 0) = true := by simp; omega
            have HS : Hid (0 < j ∧ j % 3 = 0) := hsep
            clear hsep
            go_wp2_with (first
              | (at_builtin; refine wpList_append_bytes _ rfl (.tmp 66) (.tmp 67) 26 26 rfl (w1).heap.size 5 bt _ _ rfl (HO3.out.alloc _) _ rfl [44] (src_one _ Try.underlying26 wr.heap.size 1 44 (by simp)) (by simp; omega) (by simp; omega) ?_; intro v4 w4 hO4 hG4)
              | (at_builtin; refine wpList_append_bytes _ rfl (.tmp 69) (.tmp 73) 26 26 rfl (w1).heap.size 5 bt v4 _ rfl (hO4.alloc _) _ rfl [d[q]] (src_one _ Try.underlying26 w4.heap.size 1 d[q] (by simp)) (by simp; omega) (by have := hG4.by_.size; simp at this ⊢; omega) ?_; intro v5 w5 hO5 hG5))
            have HO5 := rv_sep HQ.out HS.out hO5
            have HG5 : Hid (Grow w2 (.slice (some ⟨(w1).heap.size, 0, none⟩) 0 (d.size + d.size / 3)) w5 v5) := HG3.out.trans (((Grow.refl _ _).alloc _).trans (hG4.trans (((Grow.refl _ _).alloc _).trans hG5)))
            clear hO4 hG4 hO5 hG5 HO3 HG3
            go_wp2
            go_roundw
            case rel => exact ⟨j + 1, by omega, by go_num, by have := HQ2.out; go_num, HO5, HG5⟩
            case measure => simp [intOf]; omega
          · have HS : Hid (¬ (0 < j ∧ j % 3 = 0)) := hsep
            by_cases hj0 : 0 < j
            · have hj0' : (0 : Int) < (j : Int) := by omega
              have hmod : ((j : Int) % 3 == 0) = false := by simp; omega
              clear hsep
              go_wp2_with (at_builtin; refine wpList_append_bytes _ rfl (.tmp 69) (.tmp 73) 26 26 rfl (w1).heap.size 5 bt _ _ rfl (HO3.out.alloc _) _ rfl [d[q]] (src_one _ Try.underlying26 wr.heap.size 1 d[q] (by simp)) (by simp; omega) (by simp; omega) ?_; intro v5 w5 hO5 hG5)
              have HO5 := rv_nosep HQ.out HS.out hO5
              have HG5 : Hid (Grow w2 (.slice (some ⟨(w1).heap.size, 0, none⟩) 0 (d.size + d.size / 3)) w5 v5) := HG3.out.trans (((Grow.refl _ _).alloc _).trans hG5)
              clear hO5 hG5 HO3 HG3
              go_wp2
              go_roundw
              case rel => exact ⟨j + 1, by omega, by go_num, by have := HQ2.out; go_num, HO5, HG5⟩
              case measure => simp [intOf]; omega
            · have hj0' : decide ((0 : Int) < (j : Int)) = false := by simp; omega
              clear hsep
              go_wp2_with (at_builtin; refine wpList_append_bytes _ rfl (.tmp 69) (.tmp 73) 26 26 rfl (w1).heap.size 5 bt _ _ rfl (HO3.out.alloc _) _ rfl [d[q]] (src_one _ Try.underlying26 wr.heap.size 1 d[q] (by simp)) (by simp; omega) (by simp; omega) ?_; intro v5 w5 hO5 hG5)
              have HO5 := rv_nosep HQ.out HS.out hO5
              have HG5 : Hid (Grow w2 (.slice (some ⟨(w1).heap.size, 0, none⟩) 0 (d.size + d.size / 3)) w5 v5) := HG3.out.trans (((Grow.refl _ _).alloc _).trans hG5)
              clear hO5 hG5 HO3 HG3
              go_wp2
              go_roundw
              case rel => exact ⟨j + 1, by omega, by go_num, by have := HQ2.out; go_num, HO5, HG5⟩
              case measure => simp [intOf]; omega
        · have hjL : j = d.size := by omega
          obtain ⟨R, hR⟩ : ∃ R, R = rv d.data.toList.reverse j := ⟨_, rfl⟩
          have HR : Hid (R = rv d.data.toList.reverse d.data.toList.length) := by show _ = _; rw [hR, hjL, Lib.size_eq]
          rw [← hR] at HO3 hrl
          have HVr : Hid (Own wr w.heap.size 5 v1 [45]) := HV2.out.kept HG3.out (by
            cases hv : Value.ownBlock v1 with
            | none => exact .inl rfl
            | some k =>
              refine .inr fun e => ?_
              have := HLT.out k hv
              simp [Value.ownBlock] at e
              omega)
          have HBr : Hid (Below w.heap.size w wr) := HB2.out.trans (HG3.out.below (by have := HB2.out.size; omega) (by intro k hk; simp [Value.ownBlock] at hk; omega))
          obtain ⟨a9, cap9, hu9, _⟩ := HO3.out.shape
          have HNE : Hid (Value.ownBlock (.slice a9 R.length cap9) = none ∨ Value.ownBlock (.slice a9 R.length cap9) ≠ Value.ownBlock v1) := by
            cases hv : Value.ownBlock (.slice a9 R.length cap9) with
            | none => exact .inl rfl
            | some k =>
              refine .inr fun e => ?_
              have h1 := HO3.out.ge k (by rw [hu9]; exact hv)
              have h2 := HLT.out k e.symm
              omega
          subst hu9
          clear hR HV2 HB2 HG3 hjL
          have hjneg : ¬ (0 : Int) ≤ (d.size : Int) - 1 - (j : Int) := by omega
          go_wp2_with fail
          go_loopw [3, 12] (fun ov iv wx => ∃ t : Nat, t ≤ R.length ∧ iv = .int .i64 ((R.length : Int) - 1 - (t : Int)) ∧ Hid (Own wx w.heap.size 5 ov ([45] ++ R.reverse.take t)) ∧ Hid (Grow wr v1 wx ov)) (fun _ iv _ => (intOf iv + 1).toNat)
          case atStart => exact ⟨0, Nat.zero_le _, by go_num, by show Own _ _ _ _ _; simpa using HVr.out, Grow.refl _ _⟩
          case round =>
            obtain ⟨t, htR, rfl, HO6, HG6⟩ := hrel
            have hg6 := HG6.out.by_.size
            have HO7 := HO3.out.kept HG6.out HNE.out
            have hsg : ([45] : List UInt8).length ≤ 1 := by decide
            by_cases htl : t < R.length
            · obtain ⟨q, hq⟩ : ∃ q : Nat, (R.length : Int) - 1 - (t : Int) = (q : Int) := ⟨R.length - 1 - t, by omega⟩
              rw [hq]
              have hqR : q < R.length := by omega
              have HQ : Hid (q + t + 1 = R.length) := by show _ = _; omega
              have HQ2 : Hid ((R.length : Int) - 1 - (t : Int) = (q : Int)) := hq
              clear hq
              obtain ⟨x, hx⟩ : ∃ x, R[q] = x := ⟨_, rfl⟩
              obtain ⟨a9', cap9', hv9, hrd⟩ := HO7.rd
              obtain ⟨g9, hg9, hc9⟩ := hrd q x (by rw [List.getElem?_eq_getElem hqR, hx])
              injection hv9 with h91 h92 h93
              rw [← h91] at hg9
              subst hg9
              have HX : Hid (R[q] = x) := hx
              clear hrd h91 h92 h93 hx HO7
              go_wp2_with (at_builtin; refine wpList_append_bytes _ rfl (.tmp 84) (.tmp 89) 26 26 rfl w.heap.size 5 bt _ _ rfl (HO6.out.alloc _) _ rfl [x] (src_one _ Try.underlying26 wr.heap.size 1 x (by simp)) (by simp; omega) (by have := HBr.out.size; simp; omega) ?_; intro v8 w8 hO8 hG8)
              have HO8 : Hid (Own w8 w.heap.size 5 v8 ([45] ++ R.reverse.take (t + 1))) := by
                show Own _ _ _ _ _
                rw [rev_take HQ.out, HX.out, ← List.append_assoc]
                exact hO8
              have HG8 := HG6.out.trans (((Grow.refl _ _).alloc _).trans hG8)
              have HG8' : Hid (Grow _ _ w8 v8) := HG8
              clear hO8 hG8 HO6 HG6 HG8
              go_wp2
              go_roundw
              case rel => exact ⟨t + 1, by omega, by have := HQ2.out; go_num, HO8, HG8'⟩
              case measure => simp [intOf]
            · have htneg : ¬ (0 : Int) ≤ (R.length : Int) - 1 - (t : Int) := by omega
              have HT : Hid (t = R.length) := by show _ = _; omega
              have HO9 : Hid (Own wr w.heap.size 5 u3 ([45] ++ R.reverse)) := by
                show Own _ _ _ _ _
                have := HO6.out
                rwa [HT.out, List.take_of_length_le (by simp)] at this
              have HB9 : Hid (Below w.heap.size w wr) := HBr.out.trans (HG6.out.below HBr.out.size HVr.out.ge)
              have hb9 := HB9.out.size
              clear HO6 HG6 HO7
              go_wp2
              go_ret
              exact ⟨⟨_, rfl, by rw [← model_eq HS.out HDL.out HC.out, ← HR.out]; simpa using HO9.out⟩, HB9.out⟩

set_option maxHeartbeats 8000000 in
theorem gm_plain (d : ByteArray) (w : World) (hds : d.size ≤ 1048576) (h0 : 0 < d.size) (hd0 : ((d[0].toNat : Int) == 45) = false) (HS : Hid (sgn d.data.toList = [])) (HDL : Hid (d.data.toList = Lib.trimPrefix d.data.toList [45])) :
    Calls Try.prog 19 #[.string d] w fun e w' => (∃ v', e = .returned v' ∧ Own w' w.heap.size 5 v' (groupL d.data.toList)) ∧ Below w.heap.size w w' := by
  have h0' : (0 : Int) < (d.size : Int) := by omega
  obtain ⟨i0, hi, hz0, hz1, hz2⟩ := info_parts Try.info5
  have HV1 : Hid (Own w w.heap.size 5 (.slice none 0 0) []) := World.ownsRow_nil _ _ _ _
  have HB1 : Hid (Below w.heap.size w w) := Below.refl _ _
  go_enter Try.func19, Try.ntmps19
  go_wp2
  clear hd0
  go_loop [5, 6, 7, 8] (fun v5 v6 v7 iv => ∃ k : Nat, k ≤ d.size ∧ v5 = .string d ∧ v6 = .string ⟨#[]⟩ ∧ v7 = .bool false ∧ iv = .int .i64 k ∧ Hid (∀ i, i < k → d.data.toList[i]? ≠ some 46)) (fun _ _ _ iv => d.size - (intOf iv).toNat)
  case atStart => exact ⟨0, Nat.zero_le _, rfl, rfl, rfl, rfl, fun i h0 => by omega⟩
  case round =>
    obtain ⟨k, hk, rfl, rfl, rfl, rfl, HK⟩ := hrel
    by_cases hltk : k < d.size
    · by_cases heq : d[k] = 46
      · have hd2 : ((d[k].toNat : Int) == 46) = true := by rw [heq]; rfl
        obtain ⟨W, hW⟩ : ∃ W, W = d.extract 0 k := ⟨_, rfl⟩
        obtain ⟨F, hF⟩ : ∃ F, F = d.extract (k + 1) d.size := ⟨_, rfl⟩
        have HC : Hid (dotCut d.data.toList = (W.data.toList, F.data.toList, true)) := by
          show _ = _
          rw [dotCut_some (dot_idx (by rw [Lib.data_getElem? d k hltk, heq]) HK.out), hW, hF]
          rw [Lib.extract_data, Lib.extract_data, List.take_of_length_le (l := d.data.toList.drop (k + 1)) (by simp)]
          simp
        have hFs : F.size ≤ d.size := by have := congrArg ByteArray.size hF; simp at this; omega
        clear heq HK
        go_wp2_with (at_make; refine wpList_make_own w rfl _ (.tmp 50) 26 rfl (w).heap.size 5 i0 (.int .u8 0) 1 Try.underlying26 hi hz0 hz1 .i64 .i64 _ (k + k / 3) rfl rfl (by omega) (by rw [hz2]; omega) (by unfold maxLen; omega) (Nat.le_refl _) ?_; intro w2 hR2 hGr2)
        rw [← hW, ← hF]
        have hLW1 : W.size ≤ k := by have := congrArg ByteArray.size hW; simp at this; omega
        have hLW2 : k ≤ W.size := by have := congrArg ByteArray.size hW; simp at this; omega
        clear hW hF hd2
        have hR2' : Own w2 (w).heap.size 5 (.slice (some ⟨(w).heap.size, 0, none⟩) 0 (k + k / 3)) [] := hR2
        have HR2 : Hid (Own w2 (w).heap.size 5 (.slice (some ⟨(w).heap.size, 0, none⟩) 0 (k + k / 3)) []) := hR2'
        have HV2 : Hid (Own w2 w.heap.size 5 (.slice none 0 0) []) := World.ownsRow.kept HV1.out hGr2 (by cases hv : Value.ownBlock (.slice none 0 0) with | none => exact .inl rfl | some k => exact .inr (by simp))
        have hs2 := hGr2.size
        have hW1 := HB1.out.size
        have HB2 : Hid (Below w.heap.size w w2) := HB1.out.trans ⟨hGr2.os, hGr2.tape, hGr2.output, hGr2.size, fun k hk => hGr2.block k (by omega) (by simp)⟩
        have HLT : Hid (∀ k, Value.ownBlock (.slice none 0 0) = some k → k < (w).heap.size) := HV1.out.lt
        clear hR2 hR2' hGr2 HV1 HB1
        go_loopw [9, 10, 11] (fun rvv nv iv wr => ∃ j : Nat, j ≤ k ∧ nv = .int .i64 j ∧ iv = .int .i64 ((k : Int) - 1 - (j : Int)) ∧ Hid (Own wr (w).heap.size 5 rvv (rv W.data.toList.reverse j)) ∧ Hid (Grow w2 (.slice (some ⟨(w).heap.size, 0, none⟩) 0 (k + k / 3)) wr rvv)) (fun _ nv _ _ => k - (intOf nv).toNat)
        case atStart => exact ⟨0, Nat.zero_le _, rfl, by go_num, HR2, Grow.refl _ _⟩
        case round =>
          obtain ⟨j, hj, rfl, rfl, HO3, HG3⟩ := hrel
          clear HR2
          have hgs := HG3.out.by_.size
          have hrl := rv_len W.data.toList.reverse j
          by_cases hlt : j < k
          · obtain ⟨q, hq⟩ : ∃ q : Nat, (k : Int) - 1 - (j : Int) = (q : Int) := ⟨k - 1 - j, by omega⟩
            rw [hq]
            have HQ : Hid (q + j + 1 = W.size) := by show _ = _; omega
            have hqW : q < W.size := by omega
            have HQ2 : Hid ((k : Int) - 1 - (j : Int) = (q : Int)) := hq
            clear hq
            by_cases hsep : 0 < j ∧ j % 3 = 0
            · have hj0 : (0 : Int) < (j : Int) := by omega
              have hmod : ((j : Int) % 3 == 0) = true := by simp; omega
              have HS : Hid (0 < j ∧ j % 3 = 0) := hsep
              clear hsep
              go_wp2_with (first
                | (at_builtin; refine wpList_append_bytes _ rfl (.tmp 66) (.tmp 67) 26 26 rfl (w).heap.size 5 bt _ _ rfl (HO3.out.alloc _) _ rfl [44] (src_one _ Try.underlying26 wr.heap.size 1 44 (by simp)) (by simp; omega) (by simp; omega) ?_; intro v4 w4 hO4 hG4)
                | (at_builtin; refine wpList_append_bytes _ rfl (.tmp 69) (.tmp 73) 26 26 rfl (w).heap.size 5 bt v4 _ rfl (hO4.alloc _) _ rfl [W[q]] (src_one _ Try.underlying26 w4.heap.size 1 W[q] (by simp)) (by simp; omega) (by have := hG4.by_.size; simp at this ⊢; omega) ?_; intro v5 w5 hO5 hG5))
              have HO5 := rv_sep HQ.out HS.out hO5
              have HG5 : Hid (Grow w2 (.slice (some ⟨(w).heap.size, 0, none⟩) 0 (k + k / 3)) w5 v5) := HG3.out.trans (((Grow.refl _ _).alloc _).trans (hG4.trans (((Grow.refl _ _).alloc _).trans hG5)))
              clear hO4 hG4 hO5 hG5 HO3 HG3
              go_wp2
              go_roundw
              case rel => exact ⟨j + 1, by omega, by go_num, by have := HQ2.out; go_num, HO5, HG5⟩
              case measure => simp [intOf]; omega
            · have HS : Hid (¬ (0 < j ∧ j % 3 = 0)) := hsep
              by_cases hj0 : 0 < j
              · have hj0' : (0 : Int) < (j : Int) := by omega
                have hmod : ((j : Int) % 3 == 0) = false := by simp; omega
                clear hsep
                go_wp2_with (at_builtin; refine wpList_append_bytes _ rfl (.tmp 69) (.tmp 73) 26 26 rfl (w).heap.size 5 bt _ _ rfl (HO3.out.alloc _) _ rfl [W[q]] (src_one _ Try.underlying26 wr.heap.size 1 W[q] (by simp)) (by simp; omega) (by simp; omega) ?_; intro v5 w5 hO5 hG5)
                have HO5 := rv_nosep HQ.out HS.out hO5
                have HG5 : Hid (Grow w2 (.slice (some ⟨(w).heap.size, 0, none⟩) 0 (k + k / 3)) w5 v5) := HG3.out.trans (((Grow.refl _ _).alloc _).trans hG5)
                clear hO5 hG5 HO3 HG3
                go_wp2
                go_roundw
                case rel => exact ⟨j + 1, by omega, by go_num, by have := HQ2.out; go_num, HO5, HG5⟩
                case measure => simp [intOf]; omega
              · have hj0' : decide ((0 : Int) < (j : Int)) = false := by simp; omega
                clear hsep
                go_wp2_with (at_builtin; refine wpList_append_bytes _ rfl (.tmp 69) (.tmp 73) 26 26 rfl (w).heap.size 5 bt _ _ rfl (HO3.out.alloc _) _ rfl [W[q]] (src_one _ Try.underlying26 wr.heap.size 1 W[q] (by simp)) (by simp; omega) (by simp; omega) ?_; intro v5 w5 hO5 hG5)
                have HO5 := rv_nosep HQ.out HS.out hO5
                have HG5 : Hid (Grow w2 (.slice (some ⟨(w).heap.size, 0, none⟩) 0 (k + k / 3)) w5 v5) := HG3.out.trans (((Grow.refl _ _).alloc _).trans hG5)
                clear hO5 hG5 HO3 HG3
                go_wp2
                go_roundw
                case rel => exact ⟨j + 1, by omega, by go_num, by have := HQ2.out; go_num, HO5, HG5⟩
                case measure => simp [intOf]; omega
          · have hjL : j = W.size := by omega
            obtain ⟨R, hR⟩ : ∃ R, R = rv W.data.toList.reverse j := ⟨_, rfl⟩
            have HR : Hid (R = rv W.data.toList.reverse W.data.toList.length) := by show _ = _; rw [hR, hjL, Lib.size_eq]
            rw [← hR] at HO3 hrl
            have HVr : Hid (Own wr w.heap.size 5 (.slice none 0 0) []) := HV2.out.kept HG3.out (by
              cases hv : Value.ownBlock (.slice none 0 0) with
              | none => exact .inl rfl
              | some k =>
                refine .inr fun e => ?_
                have := HLT.out k hv
                simp [Value.ownBlock] at e
                omega)
            have HBr : Hid (Below w.heap.size w wr) := HB2.out.trans (HG3.out.below (by have := HB2.out.size; omega) (by intro k hk; simp [Value.ownBlock] at hk; omega))
            obtain ⟨a9, cap9, hu9, _⟩ := HO3.out.shape
            have HNE : Hid (Value.ownBlock (.slice a9 R.length cap9) = none ∨ Value.ownBlock (.slice a9 R.length cap9) ≠ Value.ownBlock (.slice none 0 0)) := by
              cases hv : Value.ownBlock (.slice a9 R.length cap9) with
              | none => exact .inl rfl
              | some k =>
                refine .inr fun e => ?_
                have h1 := HO3.out.ge k (by rw [hu9]; exact hv)
                have h2 := HLT.out k e.symm
                omega
            subst hu9
            clear hR HV2 HB2 HG3 hjL
            have hjneg : ¬ (0 : Int) ≤ (k : Int) - 1 - (j : Int) := by omega
            go_wp2_with fail
            go_loopw [3, 12] (fun ov iv wx => ∃ t : Nat, t ≤ R.length ∧ iv = .int .i64 ((R.length : Int) - 1 - (t : Int)) ∧ Hid (Own wx w.heap.size 5 ov (([] : List UInt8) ++ R.reverse.take t)) ∧ Hid (Grow wr (.slice none 0 0) wx ov)) (fun _ iv _ => (intOf iv + 1).toNat)
            case atStart => exact ⟨0, Nat.zero_le _, by go_num, by show Own _ _ _ _ _; simpa using HVr.out, Grow.refl _ _⟩
            case round =>
              obtain ⟨t, htR, rfl, HO6, HG6⟩ := hrel
              have hg6 := HG6.out.by_.size
              have HO7 := HO3.out.kept HG6.out HNE.out
              have hsg : ([] : List UInt8).length ≤ 1 := by decide
              by_cases htl : t < R.length
              · obtain ⟨q, hq⟩ : ∃ q : Nat, (R.length : Int) - 1 - (t : Int) = (q : Int) := ⟨R.length - 1 - t, by omega⟩
                rw [hq]
                have hqR : q < R.length := by omega
                have HQ : Hid (q + t + 1 = R.length) := by show _ = _; omega
                have HQ2 : Hid ((R.length : Int) - 1 - (t : Int) = (q : Int)) := hq
                clear hq
                obtain ⟨x, hx⟩ : ∃ x, R[q] = x := ⟨_, rfl⟩
                obtain ⟨a9', cap9', hv9, hrd⟩ := HO7.rd
                obtain ⟨g9, hg9, hc9⟩ := hrd q x (by rw [List.getElem?_eq_getElem hqR, hx])
                injection hv9 with h91 h92 h93
                rw [← h91] at hg9
                subst hg9
                have HX : Hid (R[q] = x) := hx
                clear hrd h91 h92 h93 hx HO7
                go_wp2_with (at_builtin; refine wpList_append_bytes _ rfl (.tmp 84) (.tmp 89) 26 26 rfl w.heap.size 5 bt _ _ rfl (HO6.out.alloc _) _ rfl [x] (src_one _ Try.underlying26 wr.heap.size 1 x (by simp)) (by simp; omega) (by have := HBr.out.size; simp; omega) ?_; intro v8 w8 hO8 hG8)
                have HO8 : Hid (Own w8 w.heap.size 5 v8 (([] : List UInt8) ++ R.reverse.take (t + 1))) := by
                  show Own _ _ _ _ _
                  rw [rev_take HQ.out, HX.out, ← List.append_assoc]
                  exact hO8
                have HG8 := HG6.out.trans (((Grow.refl _ _).alloc _).trans hG8)
                have HG8' : Hid (Grow _ _ w8 v8) := HG8
                clear hO8 hG8 HO6 HG6 HG8
                go_wp2
                go_roundw
                case rel => exact ⟨t + 1, by omega, by have := HQ2.out; go_num, HO8, HG8'⟩
                case measure => simp [intOf]
              · have htneg : ¬ (0 : Int) ≤ (R.length : Int) - 1 - (t : Int) := by omega
                have HT : Hid (t = R.length) := by show _ = _; omega
                have HO9 : Hid (Own wr w.heap.size 5 u3 (([] : List UInt8) ++ R.reverse)) := by
                  show Own _ _ _ _ _
                  have := HO6.out
                  rwa [HT.out, List.take_of_length_le (by simp)] at this
                have HB9 : Hid (Below w.heap.size w wr) := HBr.out.trans (HG6.out.below HBr.out.size HVr.out.ge)
                have hb9 := HB9.out.size
                clear HO6 HG6 HO7
                go_wp2_with (first
                  | (at_builtin; refine wpList_append_bytes _ rfl (.tmp 92) (.tmp 93) 26 26 rfl w.heap.size 5 bt _ _ rfl (HO9.out.alloc _) _ rfl [46] (src_one _ Try.underlying26 wr.heap.size 1 46 (by simp)) (by simp; omega) (by simp; omega) ?_; intro va wa hOa hGa)
                  | (at_builtin; refine wpList_append_bytes _ rfl (.tmp 95) (.tmp 96) 26 9 rfl w.heap.size 5 bt va _ rfl hOa _ rfl _ (src_str _ Try.underlying9 _) (by simp; omega) (by have := hGa.by_.size; simp at this; omega) ?_; intro vb wb hOb hGb))
                have HOb : Hid (Own wb w.heap.size 5 vb (([] : List UInt8) ++ R.reverse ++ [46] ++ F.data.toList)) := hOb
                have HBb : Hid (Below w.heap.size w wb) := HB9.out.trans ((((Grow.refl _ _).alloc _).trans (hGa.trans hGb)).below hb9 HO9.out.ge)
                clear hOa hGa hOb hGb
                go_wp2
                go_ret
                exact ⟨⟨_, rfl, by rw [← model_eq HS.out HDL.out HC.out, ← HR.out]; simpa using HOb.out⟩, HBb.out⟩
      · have hd2 : ((d[k].toNat : Int) == 46) = false := by
          simp; intro h; exact heq (UInt8.toNat_inj.1 (by simpa using (by omega : d[k].toNat = 46)))
        have HE : Hid (d.data.toList[k]? ≠ some 46) := by show _ ≠ _; rw [Lib.data_getElem? d k hltk]; intro e; exact heq (Option.some.inj e)
        clear heq
        go_wp2
        go_round
        case rel => exact ⟨k + 1, by omega, rfl, rfl, rfl, by go_num, fun i hi => if e : i = k then by subst e; exact HE.out else HK.out i (by omega)⟩
        case measure => simp [intOf]; omega
    · have HC : Hid (dotCut d.data.toList = (d.data.toList, [], false)) := dotCut_none (no_dot (fun i hi => HK.out i (by rw [← Lib.size_eq] at hi; omega)))
      clear HK
      go_wp2_with (at_make; refine wpList_make_own w rfl _ (.tmp 50) 26 rfl (w).heap.size 5 i0 (.int .u8 0) 1 Try.underlying26 hi hz0 hz1 .i64 .i64 _ (d.size + d.size / 3) rfl rfl (by omega) (by rw [hz2]; omega) (by unfold maxLen; omega) (Nat.le_refl _) ?_; intro w2 hR2 hGr2)
      have hR2' : Own w2 (w).heap.size 5 (.slice (some ⟨(w).heap.size, 0, none⟩) 0 (d.size + d.size / 3)) [] := hR2
      have HR2 : Hid (Own w2 (w).heap.size 5 (.slice (some ⟨(w).heap.size, 0, none⟩) 0 (d.size + d.size / 3)) []) := hR2'
      have HV2 : Hid (Own w2 w.heap.size 5 (.slice none 0 0) []) := World.ownsRow.kept HV1.out hGr2 (by cases hv : Value.ownBlock (.slice none 0 0) with | none => exact .inl rfl | some k => exact .inr (by simp))
      have hs2 := hGr2.size
      have hW1 := HB1.out.size
      have HB2 : Hid (Below w.heap.size w w2) := HB1.out.trans ⟨hGr2.os, hGr2.tape, hGr2.output, hGr2.size, fun k hk => hGr2.block k (by omega) (by simp)⟩
      have HLT : Hid (∀ k, Value.ownBlock (.slice none 0 0) = some k → k < (w).heap.size) := HV1.out.lt
      clear hR2 hR2' hGr2 HV1 HB1
      go_loopw [9, 10, 11] (fun rvv nv iv wr => ∃ j : Nat, j ≤ d.size ∧ nv = .int .i64 j ∧ iv = .int .i64 ((d.size : Int) - 1 - (j : Int)) ∧ Hid (Own wr (w).heap.size 5 rvv (rv d.data.toList.reverse j)) ∧ Hid (Grow w2 (.slice (some ⟨(w).heap.size, 0, none⟩) 0 (d.size + d.size / 3)) wr rvv)) (fun _ nv _ _ => d.size - (intOf nv).toNat)
      case atStart => exact ⟨0, Nat.zero_le _, rfl, by go_num, HR2, Grow.refl _ _⟩
      case round =>
        obtain ⟨j, hj, rfl, rfl, HO3, HG3⟩ := hrel
        clear HR2
        have hgs := HG3.out.by_.size
        have hrl := rv_len d.data.toList.reverse j
        by_cases hlt : j < d.size
        · obtain ⟨q, hq⟩ : ∃ q : Nat, (d.size : Int) - 1 - (j : Int) = (q : Int) := ⟨d.size - 1 - j, by omega⟩
          rw [hq]
          have HQ : Hid (q + j + 1 = d.size) := by show _ = _; omega
          have hqW : q < d.size := by omega
          have HQ2 : Hid ((d.size : Int) - 1 - (j : Int) = (q : Int)) := hq
          clear hq
          by_cases hsep : 0 < j ∧ j % 3 = 0
          · have hj0 : (0 : Int) < (j : Int) := by omega
            have hmod : ((j : Int) % 3 == 0) = true := by simp; omega
            have HS : Hid (0 < j ∧ j % 3 = 0) := hsep
            clear hsep
            go_wp2_with (first
              | (at_builtin; refine wpList_append_bytes _ rfl (.tmp 66) (.tmp 67) 26 26 rfl (w).heap.size 5 bt _ _ rfl (HO3.out.alloc _) _ rfl [44] (src_one _ Try.underlying26 wr.heap.size 1 44 (by simp)) (by simp; omega) (by simp; omega) ?_; intro v4 w4 hO4 hG4)
              | (at_builtin; refine wpList_append_bytes _ rfl (.tmp 69) (.tmp 73) 26 26 rfl (w).heap.size 5 bt v4 _ rfl (hO4.alloc _) _ rfl [d[q]] (src_one _ Try.underlying26 w4.heap.size 1 d[q] (by simp)) (by simp; omega) (by have := hG4.by_.size; simp at this ⊢; omega) ?_; intro v5 w5 hO5 hG5))
            have HO5 := rv_sep HQ.out HS.out hO5
            have HG5 : Hid (Grow w2 (.slice (some ⟨(w).heap.size, 0, none⟩) 0 (d.size + d.size / 3)) w5 v5) := HG3.out.trans (((Grow.refl _ _).alloc _).trans (hG4.trans (((Grow.refl _ _).alloc _).trans hG5)))
            clear hO4 hG4 hO5 hG5 HO3 HG3
            go_wp2
            go_roundw
            case rel => exact ⟨j + 1, by omega, by go_num, by have := HQ2.out; go_num, HO5, HG5⟩
            case measure => simp [intOf]; omega
          · have HS : Hid (¬ (0 < j ∧ j % 3 = 0)) := hsep
            by_cases hj0 : 0 < j
            · have hj0' : (0 : Int) < (j : Int) := by omega
              have hmod : ((j : Int) % 3 == 0) = false := by simp; omega
              clear hsep
              go_wp2_with (at_builtin; refine wpList_append_bytes _ rfl (.tmp 69) (.tmp 73) 26 26 rfl (w).heap.size 5 bt _ _ rfl (HO3.out.alloc _) _ rfl [d[q]] (src_one _ Try.underlying26 wr.heap.size 1 d[q] (by simp)) (by simp; omega) (by simp; omega) ?_; intro v5 w5 hO5 hG5)
              have HO5 := rv_nosep HQ.out HS.out hO5
              have HG5 : Hid (Grow w2 (.slice (some ⟨(w).heap.size, 0, none⟩) 0 (d.size + d.size / 3)) w5 v5) := HG3.out.trans (((Grow.refl _ _).alloc _).trans hG5)
              clear hO5 hG5 HO3 HG3
              go_wp2
              go_roundw
              case rel => exact ⟨j + 1, by omega, by go_num, by have := HQ2.out; go_num, HO5, HG5⟩
              case measure => simp [intOf]; omega
            · have hj0' : decide ((0 : Int) < (j : Int)) = false := by simp; omega
              clear hsep
              go_wp2_with (at_builtin; refine wpList_append_bytes _ rfl (.tmp 69) (.tmp 73) 26 26 rfl (w).heap.size 5 bt _ _ rfl (HO3.out.alloc _) _ rfl [d[q]] (src_one _ Try.underlying26 wr.heap.size 1 d[q] (by simp)) (by simp; omega) (by simp; omega) ?_; intro v5 w5 hO5 hG5)
              have HO5 := rv_nosep HQ.out HS.out hO5
              have HG5 : Hid (Grow w2 (.slice (some ⟨(w).heap.size, 0, none⟩) 0 (d.size + d.size / 3)) w5 v5) := HG3.out.trans (((Grow.refl _ _).alloc _).trans hG5)
              clear hO5 hG5 HO3 HG3
              go_wp2
              go_roundw
              case rel => exact ⟨j + 1, by omega, by go_num, by have := HQ2.out; go_num, HO5, HG5⟩
              case measure => simp [intOf]; omega
        · have hjL : j = d.size := by omega
          obtain ⟨R, hR⟩ : ∃ R, R = rv d.data.toList.reverse j := ⟨_, rfl⟩
          have HR : Hid (R = rv d.data.toList.reverse d.data.toList.length) := by show _ = _; rw [hR, hjL, Lib.size_eq]
          rw [← hR] at HO3 hrl
          have HVr : Hid (Own wr w.heap.size 5 (.slice none 0 0) []) := HV2.out.kept HG3.out (by
            cases hv : Value.ownBlock (.slice none 0 0) with
            | none => exact .inl rfl
            | some k =>
              refine .inr fun e => ?_
              have := HLT.out k hv
              simp [Value.ownBlock] at e
              omega)
          have HBr : Hid (Below w.heap.size w wr) := HB2.out.trans (HG3.out.below (by have := HB2.out.size; omega) (by intro k hk; simp [Value.ownBlock] at hk; omega))
          obtain ⟨a9, cap9, hu9, _⟩ := HO3.out.shape
          have HNE : Hid (Value.ownBlock (.slice a9 R.length cap9) = none ∨ Value.ownBlock (.slice a9 R.length cap9) ≠ Value.ownBlock (.slice none 0 0)) := by
            cases hv : Value.ownBlock (.slice a9 R.length cap9) with
            | none => exact .inl rfl
            | some k =>
              refine .inr fun e => ?_
              have h1 := HO3.out.ge k (by rw [hu9]; exact hv)
              have h2 := HLT.out k e.symm
              omega
          subst hu9
          clear hR HV2 HB2 HG3 hjL
          have hjneg : ¬ (0 : Int) ≤ (d.size : Int) - 1 - (j : Int) := by omega
          go_wp2_with fail
          go_loopw [3, 12] (fun ov iv wx => ∃ t : Nat, t ≤ R.length ∧ iv = .int .i64 ((R.length : Int) - 1 - (t : Int)) ∧ Hid (Own wx w.heap.size 5 ov (([] : List UInt8) ++ R.reverse.take t)) ∧ Hid (Grow wr (.slice none 0 0) wx ov)) (fun _ iv _ => (intOf iv + 1).toNat)
          case atStart => exact ⟨0, Nat.zero_le _, by go_num, by show Own _ _ _ _ _; simpa using HVr.out, Grow.refl _ _⟩
          case round =>
            obtain ⟨t, htR, rfl, HO6, HG6⟩ := hrel
            have hg6 := HG6.out.by_.size
            have HO7 := HO3.out.kept HG6.out HNE.out
            have hsg : ([] : List UInt8).length ≤ 1 := by decide
            by_cases htl : t < R.length
            · obtain ⟨q, hq⟩ : ∃ q : Nat, (R.length : Int) - 1 - (t : Int) = (q : Int) := ⟨R.length - 1 - t, by omega⟩
              rw [hq]
              have hqR : q < R.length := by omega
              have HQ : Hid (q + t + 1 = R.length) := by show _ = _; omega
              have HQ2 : Hid ((R.length : Int) - 1 - (t : Int) = (q : Int)) := hq
              clear hq
              obtain ⟨x, hx⟩ : ∃ x, R[q] = x := ⟨_, rfl⟩
              obtain ⟨a9', cap9', hv9, hrd⟩ := HO7.rd
              obtain ⟨g9, hg9, hc9⟩ := hrd q x (by rw [List.getElem?_eq_getElem hqR, hx])
              injection hv9 with h91 h92 h93
              rw [← h91] at hg9
              subst hg9
              have HX : Hid (R[q] = x) := hx
              clear hrd h91 h92 h93 hx HO7
              go_wp2_with (at_builtin; refine wpList_append_bytes _ rfl (.tmp 84) (.tmp 89) 26 26 rfl w.heap.size 5 bt _ _ rfl (HO6.out.alloc _) _ rfl [x] (src_one _ Try.underlying26 wr.heap.size 1 x (by simp)) (by simp; omega) (by have := HBr.out.size; simp; omega) ?_; intro v8 w8 hO8 hG8)
              have HO8 : Hid (Own w8 w.heap.size 5 v8 (([] : List UInt8) ++ R.reverse.take (t + 1))) := by
                show Own _ _ _ _ _
                rw [rev_take HQ.out, HX.out, ← List.append_assoc]
                exact hO8
              have HG8 := HG6.out.trans (((Grow.refl _ _).alloc _).trans hG8)
              have HG8' : Hid (Grow _ _ w8 v8) := HG8
              clear hO8 hG8 HO6 HG6 HG8
              go_wp2
              go_roundw
              case rel => exact ⟨t + 1, by omega, by have := HQ2.out; go_num, HO8, HG8'⟩
              case measure => simp [intOf]
            · have htneg : ¬ (0 : Int) ≤ (R.length : Int) - 1 - (t : Int) := by omega
              have HT : Hid (t = R.length) := by show _ = _; omega
              have HO9 : Hid (Own wr w.heap.size 5 u3 (([] : List UInt8) ++ R.reverse)) := by
                show Own _ _ _ _ _
                have := HO6.out
                rwa [HT.out, List.take_of_length_le (by simp)] at this
              have HB9 : Hid (Below w.heap.size w wr) := HBr.out.trans (HG6.out.below HBr.out.size HVr.out.ge)
              have hb9 := HB9.out.size
              clear HO6 HG6 HO7
              go_wp2
              go_ret
              exact ⟨⟨_, rfl, by rw [← model_eq HS.out HDL.out HC.out, ← HR.out]; simpa using HO9.out⟩, HB9.out⟩

set_option maxHeartbeats 8000000 in
theorem gm_empty (d : ByteArray) (w : World) (hds : d.size = 0) :
    Calls Try.prog 19 #[.string d] w fun e w' => (∃ v', e = .returned v' ∧ Own w' w.heap.size 5 v' (groupL d.data.toList)) ∧ Below w.heap.size w w' := by
  have hg : decide ((0 : Int) < (d.size : Int)) = false := by rw [hds]; rfl
  have HG : Hid (groupL d.data.toList = []) := by
    have : d.data.toList = [] := List.eq_nil_of_length_eq_zero (by rw [← Lib.size_eq]; exact hds)
    show _ = _
    rw [this]
    rfl
  obtain ⟨i0, hi, hz0, hz1, hz2⟩ := info_parts Try.info5
  go_enter Try.func19, Try.ntmps19
  go_wp2
  refine wp_loop_rounds 1 ?_
  rw [rounds_succ]
  go_wp2_with (at_make; refine wpList_make_own w rfl _ (.tmp 50) 26 rfl w.heap.size 5 i0 (.int .u8 0) 1 Try.underlying26 hi hz0 hz1 .i64 .i64 _ 0 rfl rfl (by omega) (by rw [hz2]; omega) (by unfold maxLen; omega) (Nat.le_refl _) ?_; intro w2 hR2 hGr2)
  refine wp_loop_rounds 1 ?_
  rw [rounds_succ]
  go_wp2
  refine wp_loop_rounds 1 ?_
  rw [rounds_succ]
  go_wp2
  go_ret
  exact ⟨⟨_, rfl, by rw [HG.out]; exact World.ownsRow_nil _ _ _ _⟩, ⟨hGr2.os, hGr2.tape, hGr2.output, hGr2.size, fun k hk => hGr2.block k (by omega) (by simp)⟩⟩

theorem gm_any (text : ByteArray) (w : World) (hs : text.size ≤ 1048576) :
    Calls Try.prog 19 #[.string text] w fun e w' => (∃ v', e = .returned v' ∧ Own w' w.heap.size 5 v' (groupL text.data.toList)) ∧ Below w.heap.size w w' := by
  cases hp : Lib.hasPrefix text.data.toList [45]
  · have HS : Hid (sgn text.data.toList = []) := by show _ = _; unfold sgn; rw [hp]; rfl
    by_cases h0 : 0 < text.size
    · refine gm_plain text w hs h0 ?_ HS (trim_same hp).symm
      have hne : ¬ text[0] = 45 := fun e => by rw [(prefix_iff text).2 ⟨h0, e⟩] at hp; cases hp
      simp; intro h; exact hne (UInt8.toNat_inj.1 (by simpa using (by omega : text[0].toNat = 45)))
    · exact gm_empty text w (by omega)
  · obtain ⟨h0, h1⟩ := (prefix_iff text).1 hp
    exact gm_minus text _ w hs h0 (by rw [h1]; rfl) rfl (by show _ = _; unfold sgn; rw [hp]; rfl) (trim_drop hp)
end Go.Proofs.Qxb6605318a
