/-
  The walk of AppendGroup.
-/
import Derived.Test.Qxb6605318aClone
import Derived.Test.Qxb6605318aGroup
import Derived.Deep.RegionLaw
namespace Go.Proofs.Qxb6605318a
open Go.RowKit

/-- The end of the walk: a slice of the call's own that holds l. -/
def GrownTo (w : World) (base : Nat) (v : Value) (l : List UInt8) (e : Ending) (w' : World) : Prop :=
  ∃ v', e = .returned v' ∧ Own w' base 5 v' l ∧ Grow w v w' v'

def strLen : Value → Nat | .string s => s.size | _ => 0

theorem nonempty_of {s : ByteArray} (h : 0 < s.size) : s.toList.isEmpty = false := by
  rw [Lib.toList_data, List.isEmpty_eq_false_iff, ← List.length_pos_iff, ← Lib.size_eq]
  exact h
theorem empty_of {s : ByteArray} (h : s.size = 0) : s.toList.isEmpty = true := by
  rw [Lib.toList_data, List.isEmpty_iff, ← List.length_eq_zero_iff, ← Lib.size_eq]
  exact h
theorem rest_start (wh : ByteArray) (h : Nat) : Hid ((wh.extract h wh.size).data.toList = wh.data.toList.drop (h + 3 * 0)) := by
  show _ = _
  rw [Lib.extract_data, Nat.mul_zero, Nat.add_zero]
  exact List.take_of_length_le (by simp)
theorem rest_next {wh rest : ByteArray} {h k : Nat} (hr : Hid (rest.data.toList = wh.data.toList.drop (h + 3 * k))) : Hid ((rest.extract 3 rest.size).data.toList = wh.data.toList.drop (h + 3 * (k + 1))) := by
  show _ = _
  rw [Lib.extract_data, List.take_of_length_le (by simp), hr.out, List.drop_drop]
  congr 1
theorem own_start {w : World} {base : Nat} {v : Value} {a x : List UInt8} (h : Hid (Own w base 5 v a)) : Hid (Own w base 5 v (a ++ grp x 0)) := by
  show Own _ _ _ _ _
  unfold grp
  rw [List.append_nil]
  exact h.out
theorem own_next {w : World} {base : Nat} {v : Value} {a : List UInt8} {wh rest : ByteArray} {h k : Nat} (hr : Hid (rest.data.toList = wh.data.toList.drop (h + 3 * k)))
    (ho : Own w base 5 v (a ++ grp (wh.data.toList.drop h) k ++ [44] ++ (rest.extract 0 3).data.toList)) : Hid (Own w base 5 v (a ++ grp (wh.data.toList.drop h) (k + 1))) := by
  show Own _ _ _ _ _
  have e : (rest.extract 0 3).data.toList = ((wh.data.toList.drop h).drop (3 * k)).take 3 := by
    rw [Lib.extract_data, hr.out, List.drop_drop]
    simp
  rw [e] at ho
  have e2 : a ++ grp (wh.data.toList.drop h) (k + 1) = a ++ grp (wh.data.toList.drop h) k ++ [44] ++ ((wh.data.toList.drop h).drop (3 * k)).take 3 := by
    show a ++ (grp (wh.data.toList.drop h) k ++ (44 :: ((wh.data.toList.drop h).drop (3 * k)).take 3)) = _
    simp
  rw [e2]
  exact ho

theorem cut_sizes (l : List UInt8) : (dotCut l).1.length + (dotCut l).2.1.length ≤ l.length := by
  have hge := Lib.indexByte_ge l 46
  by_cases h : Lib.indexByte l 46 = -1
  · rw [dotCut_none h]; simp
  · obtain ⟨i, hi⟩ : ∃ i : Nat, Lib.indexByte l 46 = (i : Int) := ⟨(Lib.indexByte l 46).toNat, by omega⟩
    rw [dotCut_some hi]
    simp
    omega

theorem sum_of {d wh fr : ByteArray} (hw : wh.data.toList = (dotCut d.data.toList).1) (hf : fr.data.toList = (dotCut d.data.toList).2.1) : wh.size + fr.size ≤ d.size := by
  have := cut_sizes d.data.toList
  rw [Lib.size_eq, Lib.size_eq, Lib.size_eq, hw, hf]
  exact this

theorem final_eq {text d wh fr : ByteArray} {l s : List UInt8} {pt : Bool} {m0 q : Nat} (hs : sgn text.data.toList = s) (hd : d.data.toList = Lib.trimPrefix text.data.toList [45])
    (hw : wh.data.toList = (dotCut d.data.toList).1) (hf : fr.data.toList = (dotCut d.data.toList).2.1) (hp : pt = (dotCut d.data.toList).2.2) (hq : q = (wh.size - 1) / 3) (hm : m0 + 3 * q = wh.size) :
    l ++ s ++ (wh.extract 0 m0).data.toList ++ grp (wh.data.toList.drop m0) q ++ (if pt = true then 46 :: fr.data.toList else []) = l ++ groupL text.data.toList := by
  have e : groupL text.data.toList = sgn text.data.toList ++ whole3 wh.data.toList ++ (if pt = true then 46 :: fr.data.toList else []) := by
    unfold groupL
    rw [← hd, hw, hf, hp]
  have e2 : whole3 wh.data.toList = (wh.extract 0 m0).data.toList ++ grp (wh.data.toList.drop m0) q := by
    unfold whole3 commas
    rw [← Lib.size_eq, ← hq]
    have : wh.size - 3 * q = m0 := by omega
    rw [this, Lib.extract_data]
    simp
  rw [e, e2, hs]
  simp only [List.append_assoc]

theorem final_zero {text d wh fr : ByteArray} {l s : List UInt8} {pt : Bool} (hs : sgn text.data.toList = s) (hd : d.data.toList = Lib.trimPrefix text.data.toList [45])
    (hw : wh.data.toList = (dotCut d.data.toList).1) (hf : fr.data.toList = (dotCut d.data.toList).2.1) (hp : pt = (dotCut d.data.toList).2.2) (h0 : wh.size = 0) :
    l ++ s ++ (if pt = true then 46 :: fr.data.toList else []) = l ++ groupL text.data.toList := by
  have h := final_eq (l := l) (m0 := 0) (q := 0) hs hd hw hf hp (by rw [h0]) (by rw [h0])
  rw [← h, Lib.extract_data]
  simp [grp]

set_option maxHeartbeats 2000000 in
theorem ag_minus (v : Value) (l : List UInt8) (text : ByteArray) (base : Nat) (w : World) (hown : Own w base 5 v l) (hbase : base ≤ w.heap.size) (hsz : l.length + text.size ≤ 1048576)
    (hp : Lib.hasPrefix text.data.toList [45] = true) :
    Calls Try.prog 20 #[v, .string text] w fun e w' => GrownTo w base v (l ++ groupL text.data.toList) e w' := by
  have HO : Hid (Own w base 5 v l) := hown
  have HS : Hid (sgn text.data.toList = [45]) := by show _ = _; unfold sgn; rw [hp]; rfl
  clear hown
  go_enter Try.func20, Try.ntmps20
  go_wp2_with (first
    | (go_at_call 27; refine (Try.strings_CutPrefix _ _ _).mono ?_; rintro e w' ⟨rfl, hw⟩; rw [hw])
    | (at_builtin; refine wpList_append_bytes _ rfl (.tmp 20) (.tmp 21) 26 26 rfl base 5 bt v l rfl (HO.out.alloc _) _ rfl [45] (src_one _ Try.underlying26 w.heap.size 1 45 (by simp)) (by simp; omega) (by simp; omega) ?_; intro v1 w1 hO1 hG1))
  have HG1 : Hid (Grow w v w1 v1) := ((Grow.refl _ _).alloc _).trans hG1
  have HO1 : Hid (Own w1 base 5 v1 (l ++ [45])) := hO1
  clear hO1 hG1
  obtain ⟨d, hd⟩ : ∃ d : ByteArray, d = ⟨(Lib.trimPrefix text.data.toList [45]).toArray⟩ := ⟨_, rfl⟩
  rw [← hd]
  have hdl : d.data.toList = Lib.trimPrefix text.data.toList [45] := by rw [hd]
  have hds : d.size ≤ text.size := by rw [Lib.size_eq, hdl, Lib.size_eq]; exact Lib.trimPrefix_le _ _
  have HD : Hid (d.data.toList = Lib.trimPrefix text.data.toList [45]) := hdl
  clear hd hdl
  refine (cut24_any d _ (by omega)).mono ?_
  rintro e w2 ⟨⟨wh, fr, rfl, hwh, hfr⟩, n2, rfl⟩
  obtain ⟨pt, hpt⟩ : ∃ pt, pt = (dotCut d.data.toList).2.2 := ⟨_, rfl⟩
  rw [← hpt]
  have hsum : wh.size + fr.size ≤ d.size := sum_of hwh hfr
  have HW : Hid (wh.data.toList = (dotCut d.data.toList).1) := hwh
  have HF : Hid (fr.data.toList = (dotCut d.data.toList).2.1) := hfr
  have HP : Hid (pt = (dotCut d.data.toList).2.2) := hpt
  clear hwh hfr hpt
  by_cases h0 : wh.size = 0
  · go_wp2_with (at_builtin; refine wpList_append_bytes _ rfl (.tmp 38) (.tmp 41) 26 9 rfl base 5 bt v1 (l ++ [45]) rfl (HO1.out.drewN _) _ rfl _ (src_str _ Try.underlying9 _) (by simp; omega) (by have := HG1.out.by_.size; simp; omega) ?_; intro v2 w2 hO2 hG2)
    have HO2 : Hid (Own w2 base 5 v2 (l ++ [45])) := by show Own _ _ _ _ _; simpa using hO2
    have HG2 : Hid (Grow w v w2 v2) := HG1.out.trans ((Grow.refl _ _).drewN n2 |>.trans hG2)
    have H0 : Hid (wh.size = 0) := h0
    have hbb := HG2.out.by_.size
    clear hO2 hG2 HO1 HG1 h0
    refine wp_loop_rounds 1 ?_
    rw [rounds_succ]
    cases pt
    · go_wp2_with fail
      go_ret
      exact ⟨_, rfl, by rw [← final_zero HS.out HD.out HW.out HF.out HP.out H0.out]; simpa using HO2.out, HG2.out⟩
    · go_wp2_with (first
        | (at_builtin; refine wpList_append_bytes _ rfl (.tmp 57) (.tmp 58) 26 26 rfl base 5 bt v2 _ rfl (HO2.out.alloc _) _ rfl [46] (src_one _ Try.underlying26 w2.heap.size 1 46 (by simp)) (by simp; omega) (by simp; omega) ?_; intro v6 w6 hO6 hG6)
        | (at_builtin; refine wpList_append_bytes _ rfl (.tmp 59) (.tmp 60) 26 9 rfl base 5 bt v6 _ rfl hO6 _ rfl _ (src_str _ Try.underlying9 _) (by simp; omega) (by have := hG6.by_.size; simp at this; omega) ?_; intro v7 w7 hO7 hG7))
      have HG7 : Hid (Grow w v w7 v7) := HG2.out.trans (((Grow.refl _ _).alloc _).trans (hG6.trans hG7))
      have HO7 : Hid (Own w7 base 5 v7 (l ++ [45] ++ [46] ++ fr.data.toList)) := hO7
      clear hO6 hG6 hO7 hG7 HO2 HG2
      go_wp2
      go_ret
      exact ⟨_, rfl, by rw [← final_zero HS.out HD.out HW.out HF.out HP.out H0.out]; simpa using HO7.out, HG7.out⟩
  · have h1 : (1 : Int) ≤ (wh.size : Int) := by omega
    go_wp2_with (at_builtin; refine wpList_append_bytes _ rfl (.tmp 38) (.tmp 41) 26 9 rfl base 5 bt v1 (l ++ [45]) rfl (HO1.out.drewN _) _ rfl _ (src_str _ Try.underlying9 _) (by simp; omega) (by have := HG1.out.by_.size; simp; omega) ?_; intro v2 w2 hO2 hG2)
    have HO2 : Hid (Own w2 base 5 v2 (l ++ [45] ++ (wh.extract 0 (wh.size - (wh.size - 1) / 3 * 3)).data.toList)) := hO2
    have HG2 : Hid (Grow w v w2 v2) := HG1.out.trans ((Grow.refl _ _).drewN n2 |>.trans hG2)
    clear hO2 hG2 HO1 HG1
    obtain ⟨m0, hh⟩ : ∃ m0, m0 = wh.size - (wh.size - 1) / 3 * 3 := ⟨_, rfl⟩
    obtain ⟨q, hq⟩ : ∃ q, q = (wh.size - 1) / 3 := ⟨_, rfl⟩
    rw [← hh]
    rw [← hh] at HO2
    have hwq : m0 + 3 * q = wh.size := by omega
    have HQ : Hid (m0 + 3 * q = wh.size) := hwq
    have HQ2 : Hid (q = (wh.size - 1) / 3) := hq
    have hql : m0 + 3 * q ≤ wh.size := by omega
    have hqg : wh.size ≤ m0 + 3 * q := by omega
    clear hh hq hwq
    go_loopw [0, 12] (fun bv rv wr => ∃ (k : Nat) (rest : ByteArray), k ≤ q ∧ rv = .string rest ∧ Hid (rest.data.toList = wh.data.toList.drop (m0 + 3 * k)) ∧ Hid (Own wr base 5 bv (l ++ [45] ++ (wh.extract 0 m0).data.toList ++ grp (wh.data.toList.drop m0) k)) ∧ Hid (Grow w v wr bv)) (fun _ rv _ => strLen rv)
    case atStart => exact ⟨0, _, Nat.zero_le _, rfl, rest_start wh m0, own_start HO2, HG2⟩
    case round =>
      obtain ⟨k, rest, hk, rfl, HR, HO3, HG3⟩ := hrel
      clear HO2 HG2
      have hrs : rest.size = wh.size - (m0 + 3 * k) := by rw [Lib.size_eq, HR.out, List.length_drop, ← Lib.size_eq]
      have hgs := grp_le (wh.data.toList.drop m0) k
      have hbb := HG3.out.by_.size
      by_cases hlt : k < q
      · have h3 : (3 : Int) ≤ (rest.size : Int) := by omega
        have hne : rest.toList.isEmpty = false := nonempty_of (by omega)
        clear hrs
        go_wp2
        go_region_law (first
          | (refine step_append_bytes _ rfl (.tmp 50) (.tmp 51) 26 26 rfl base 5 bt _ _ rfl (HO3.out.drew.alloc _) _ rfl [44] (src_one _ Try.underlying26 wr.heap.size 1 44 (by simp)) (by simp; omega) (by simp; omega) ?_; intro v4 w4 hO4 hG4)
          | (refine step_append_bytes _ rfl (.tmp 52) (.tmp 54) 26 9 rfl base 5 bt _ _ rfl hO4 _ rfl _ (src_str _ Try.underlying9 _) (by simp; omega) (by have := hG4.by_.size; simp at this; omega) ?_; intro v5 w5 hO5 hG5))
        have HO5 := own_next HR hO5
        have HG5 : Hid (Grow w v w5 v5) := HG3.out.trans (((Grow.refl _ _).drew.alloc _).trans (hG4.trans hG5))
        clear hO4 hG4 hO5 hG5 HO3 HG3
        go_wp2
        go_roundw
        case rel => exact ⟨k + 1, _, by omega, rfl, rest_next HR, HO5, HG5⟩
        case measure => simp [strLen]; omega
      · have hne : rest.toList.isEmpty = true := empty_of (by omega)
        have hkq : k = q := by omega
        have HO4 : Hid (Own wr base 5 u0 (l ++ [45] ++ (wh.extract 0 m0).data.toList ++ grp (wh.data.toList.drop m0) q)) := by rw [← hkq]; exact HO3
        clear hrs hkq HO3
        have hgq := grp_le (wh.data.toList.drop m0) q
        cases pt
        · go_wp2_with fail
          go_ret
          exact ⟨_, rfl, by rw [← final_eq HS.out HD.out HW.out HF.out HP.out HQ2.out HQ.out]; simpa using HO4.out, HG3.out⟩
        · go_wp2_with (first
            | (at_builtin; refine wpList_append_bytes _ rfl (.tmp 57) (.tmp 58) 26 26 rfl base 5 bt u0 _ rfl (HO4.out.alloc _) _ rfl [46] (src_one _ Try.underlying26 wr.heap.size 1 46 (by simp)) (by simp; omega) (by simp; omega) ?_; intro v6 w6 hO6 hG6)
            | (at_builtin; refine wpList_append_bytes _ rfl (.tmp 59) (.tmp 60) 26 9 rfl base 5 bt v6 _ rfl hO6 _ rfl _ (src_str _ Try.underlying9 _) (by simp; omega) (by have := hG6.by_.size; simp at this; omega) ?_; intro v7 w7 hO7 hG7))
          have HG7 : Hid (Grow w v w7 v7) := HG3.out.trans (((Grow.refl _ _).alloc _).trans (hG6.trans hG7))
          have HO7 : Hid (Own w7 base 5 v7 (l ++ [45] ++ (wh.extract 0 m0).data.toList ++ grp (wh.data.toList.drop m0) q ++ [46] ++ fr.data.toList)) := hO7
          clear hO6 hG6 hO7 hG7 HO4 HG3
          go_wp2
          go_ret
          exact ⟨_, rfl, by rw [← final_eq HS.out HD.out HW.out HF.out HP.out HQ2.out HQ.out]; simpa using HO7.out, HG7.out⟩

set_option maxHeartbeats 2000000 in
theorem ag_plain (v : Value) (l : List UInt8) (d : ByteArray) (base : Nat) (w : World) (hown : Own w base 5 v l) (hbase : base ≤ w.heap.size) (hsz : l.length + d.size ≤ 1048576)
    (hp : Lib.hasPrefix d.data.toList [45] = false) :
    Calls Try.prog 20 #[v, .string d] w fun e w' => GrownTo w base v (l ++ groupL d.data.toList) e w' := by
  have HO : Hid (Own w base 5 v l) := hown
  have HS : Hid (sgn d.data.toList = []) := by show _ = _; unfold sgn; rw [hp]; rfl
  clear hown
  have HO1 : Hid (Own w base 5 v (l ++ [])) := by show Own _ _ _ _ _; rw [List.append_nil]; exact HO.out
  have HG1 : Hid (Grow w v w v) := Grow.refl _ _
  go_enter Try.func20, Try.ntmps20
  go_wp2_with (go_at_call 27; refine (Try.strings_CutPrefix _ _ _).mono ?_; rintro e w' ⟨rfl, hw⟩; rw [hw])
  have HD : Hid (d.data.toList = Lib.trimPrefix d.data.toList [45]) := by show _ = _; unfold Lib.trimPrefix; rw [hp]; rfl
  refine (cut24_any d _ (by omega)).mono ?_
  rintro e w2 ⟨⟨wh, fr, rfl, hwh, hfr⟩, n2, rfl⟩
  obtain ⟨pt, hpt⟩ : ∃ pt, pt = (dotCut d.data.toList).2.2 := ⟨_, rfl⟩
  rw [← hpt]
  have hsum : wh.size + fr.size ≤ d.size := sum_of hwh hfr
  have HW : Hid (wh.data.toList = (dotCut d.data.toList).1) := hwh
  have HF : Hid (fr.data.toList = (dotCut d.data.toList).2.1) := hfr
  have HP : Hid (pt = (dotCut d.data.toList).2.2) := hpt
  clear hwh hfr hpt
  by_cases h0 : wh.size = 0
  · go_wp2_with (at_builtin; refine wpList_append_bytes _ rfl (.tmp 38) (.tmp 41) 26 9 rfl base 5 bt v (l ++ []) rfl (HO1.out.drewN _) _ rfl _ (src_str _ Try.underlying9 _) (by simp; omega) (by have := HG1.out.by_.size; simp; omega) ?_; intro v2 w2 hO2 hG2)
    have HO2 : Hid (Own w2 base 5 v2 (l ++ [])) := by show Own _ _ _ _ _; simpa using hO2
    have HG2 : Hid (Grow w v w2 v2) := HG1.out.trans ((Grow.refl _ _).drewN n2 |>.trans hG2)
    have H0 : Hid (wh.size = 0) := h0
    have hbb := HG2.out.by_.size
    clear hO2 hG2 HO1 HG1 h0
    refine wp_loop_rounds 1 ?_
    rw [rounds_succ]
    cases pt
    · go_wp2_with fail
      go_ret
      exact ⟨_, rfl, by rw [← final_zero HS.out HD.out HW.out HF.out HP.out H0.out]; simpa using HO2.out, HG2.out⟩
    · go_wp2_with (first
        | (at_builtin; refine wpList_append_bytes _ rfl (.tmp 57) (.tmp 58) 26 26 rfl base 5 bt v2 _ rfl (HO2.out.alloc _) _ rfl [46] (src_one _ Try.underlying26 w2.heap.size 1 46 (by simp)) (by simp; omega) (by simp; omega) ?_; intro v6 w6 hO6 hG6)
        | (at_builtin; refine wpList_append_bytes _ rfl (.tmp 59) (.tmp 60) 26 9 rfl base 5 bt v6 _ rfl hO6 _ rfl _ (src_str _ Try.underlying9 _) (by simp; omega) (by have := hG6.by_.size; simp at this; omega) ?_; intro v7 w7 hO7 hG7))
      have HG7 : Hid (Grow w v w7 v7) := HG2.out.trans (((Grow.refl _ _).alloc _).trans (hG6.trans hG7))
      have HO7 : Hid (Own w7 base 5 v7 (l ++ [] ++ [46] ++ fr.data.toList)) := hO7
      clear hO6 hG6 hO7 hG7 HO2 HG2
      go_wp2
      go_ret
      exact ⟨_, rfl, by rw [← final_zero HS.out HD.out HW.out HF.out HP.out H0.out]; simpa using HO7.out, HG7.out⟩
  · have h1 : (1 : Int) ≤ (wh.size : Int) := by omega
    go_wp2_with (at_builtin; refine wpList_append_bytes _ rfl (.tmp 38) (.tmp 41) 26 9 rfl base 5 bt v (l ++ []) rfl (HO1.out.drewN _) _ rfl _ (src_str _ Try.underlying9 _) (by simp; omega) (by have := HG1.out.by_.size; simp; omega) ?_; intro v2 w2 hO2 hG2)
    have HO2 : Hid (Own w2 base 5 v2 (l ++ [] ++ (wh.extract 0 (wh.size - (wh.size - 1) / 3 * 3)).data.toList)) := hO2
    have HG2 : Hid (Grow w v w2 v2) := HG1.out.trans ((Grow.refl _ _).drewN n2 |>.trans hG2)
    clear hO2 hG2 HO1 HG1
    obtain ⟨m0, hh⟩ : ∃ m0, m0 = wh.size - (wh.size - 1) / 3 * 3 := ⟨_, rfl⟩
    obtain ⟨q, hq⟩ : ∃ q, q = (wh.size - 1) / 3 := ⟨_, rfl⟩
    rw [← hh]
    rw [← hh] at HO2
    have hwq : m0 + 3 * q = wh.size := by omega
    have HQ : Hid (m0 + 3 * q = wh.size) := hwq
    have HQ2 : Hid (q = (wh.size - 1) / 3) := hq
    have hql : m0 + 3 * q ≤ wh.size := by omega
    have hqg : wh.size ≤ m0 + 3 * q := by omega
    clear hh hq hwq
    go_loopw [0, 12] (fun bv rv wr => ∃ (k : Nat) (rest : ByteArray), k ≤ q ∧ rv = .string rest ∧ Hid (rest.data.toList = wh.data.toList.drop (m0 + 3 * k)) ∧ Hid (Own wr base 5 bv (l ++ [] ++ (wh.extract 0 m0).data.toList ++ grp (wh.data.toList.drop m0) k)) ∧ Hid (Grow w v wr bv)) (fun _ rv _ => strLen rv)
    case atStart => exact ⟨0, _, Nat.zero_le _, rfl, rest_start wh m0, own_start HO2, HG2⟩
    case round =>
      obtain ⟨k, rest, hk, rfl, HR, HO3, HG3⟩ := hrel
      clear HO2 HG2
      have hrs : rest.size = wh.size - (m0 + 3 * k) := by rw [Lib.size_eq, HR.out, List.length_drop, ← Lib.size_eq]
      have hgs := grp_le (wh.data.toList.drop m0) k
      have hbb := HG3.out.by_.size
      by_cases hlt : k < q
      · have h3 : (3 : Int) ≤ (rest.size : Int) := by omega
        have hne : rest.toList.isEmpty = false := nonempty_of (by omega)
        clear hrs
        go_wp2
        go_region_law (first
          | (refine step_append_bytes _ rfl (.tmp 50) (.tmp 51) 26 26 rfl base 5 bt _ _ rfl (HO3.out.drew.alloc _) _ rfl [44] (src_one _ Try.underlying26 wr.heap.size 1 44 (by simp)) (by simp; omega) (by simp; omega) ?_; intro v4 w4 hO4 hG4)
          | (refine step_append_bytes _ rfl (.tmp 52) (.tmp 54) 26 9 rfl base 5 bt _ _ rfl hO4 _ rfl _ (src_str _ Try.underlying9 _) (by simp; omega) (by have := hG4.by_.size; simp at this; omega) ?_; intro v5 w5 hO5 hG5))
        have HO5 := own_next HR hO5
        have HG5 : Hid (Grow w v w5 v5) := HG3.out.trans (((Grow.refl _ _).drew.alloc _).trans (hG4.trans hG5))
        clear hO4 hG4 hO5 hG5 HO3 HG3
        go_wp2
        go_roundw
        case rel => exact ⟨k + 1, _, by omega, rfl, rest_next HR, HO5, HG5⟩
        case measure => simp [strLen]; omega
      · have hne : rest.toList.isEmpty = true := empty_of (by omega)
        have hkq : k = q := by omega
        have HO4 : Hid (Own wr base 5 u0 (l ++ [] ++ (wh.extract 0 m0).data.toList ++ grp (wh.data.toList.drop m0) q)) := by rw [← hkq]; exact HO3
        clear hrs hkq HO3
        have hgq := grp_le (wh.data.toList.drop m0) q
        cases pt
        · go_wp2_with fail
          go_ret
          exact ⟨_, rfl, by rw [← final_eq HS.out HD.out HW.out HF.out HP.out HQ2.out HQ.out]; simpa using HO4.out, HG3.out⟩
        · go_wp2_with (first
            | (at_builtin; refine wpList_append_bytes _ rfl (.tmp 57) (.tmp 58) 26 26 rfl base 5 bt u0 _ rfl (HO4.out.alloc _) _ rfl [46] (src_one _ Try.underlying26 wr.heap.size 1 46 (by simp)) (by simp; omega) (by simp; omega) ?_; intro v6 w6 hO6 hG6)
            | (at_builtin; refine wpList_append_bytes _ rfl (.tmp 59) (.tmp 60) 26 9 rfl base 5 bt v6 _ rfl hO6 _ rfl _ (src_str _ Try.underlying9 _) (by simp; omega) (by have := hG6.by_.size; simp at this; omega) ?_; intro v7 w7 hO7 hG7))
          have HG7 : Hid (Grow w v w7 v7) := HG3.out.trans (((Grow.refl _ _).alloc _).trans (hG6.trans hG7))
          have HO7 : Hid (Own w7 base 5 v7 (l ++ [] ++ (wh.extract 0 m0).data.toList ++ grp (wh.data.toList.drop m0) q ++ [46] ++ fr.data.toList)) := hO7
          clear hO6 hG6 hO7 hG7 HO4 HG3
          go_wp2
          go_ret
          exact ⟨_, rfl, by rw [← final_eq HS.out HD.out HW.out HF.out HP.out HQ2.out HQ.out]; simpa using HO7.out, HG7.out⟩

theorem ag_any (v : Value) (l : List UInt8) (text : ByteArray) (base : Nat) (w : World) (hown : Own w base 5 v l) (hbase : base ≤ w.heap.size) (hsz : l.length + text.size ≤ 1048576) :
    Calls Try.prog 20 #[v, .string text] w fun e w' => GrownTo w base v (l ++ groupL text.data.toList) e w' := by
  cases hp : Lib.hasPrefix text.data.toList [45]
  · exact ag_plain v l text base w hown hbase hsz hp
  · exact ag_minus v l text base w hown hbase hsz hp
end Go.Proofs.Qxb6605318a
