/-
  The walk of FnValueEndThenUnescapeReadsCanonicalStringBack.
-/
import Derived.Test.Qxb6606064aDoorUn
import Derived.Test.Qxb6606064aDoorEnd
namespace Go.Proofs.Qxb6606064aDoor
open Go.RowKit

set_option maxHeartbeats 1000000 in
theorem copy6f (v : Value) (l : List UInt8) (w : World) (hr : Reads w v l) (hl : l.length ≤ 1048576) :
    Calls Tryd.prog 6 #[v] w fun e w' => (∃ v', e = .returned v' ∧ Own w' w.heap.size 5 v' l ∧ Full v') ∧ Below w.heap.size w w' := by
  have q22 : ∀ (w : World) (a : Option Addr) (n c n' c' : Nat), (binOp .eql 22 (.slice a n c) (.slice none n' c')).run Tryd.prog w = .ok (.bool a.isNone) w := fun w a n c n' c' => Lib.run_eql_slice_nil w 22 5 a n c n' c' Tryd.underlying22
  rcases hr with ⟨rfl, rfl⟩ | ⟨x, cap, rfl, hc⟩
  · go_enter Tryd.func6, Tryd.ntmps6
    go_wp2
    go_ret
    exact ⟨⟨_, rfl, World.ownsRow_nil _ _ _ _, .inl rfl⟩, Below.refl _ _⟩
  · obtain ⟨i, hi, hz0, hz1, hz2⟩ := info_parts Tryd.info5
    have HC : Hid (∀ j u, (bys l)[j]? = some u → w.cell? (x.add j) = some u) := hc
    clear hc
    go_enter Tryd.func6, Tryd.ntmps6
    go_wp2_with (first
      | (at_make; refine wpList_make_row _ rfl _ _ 22 rfl 5 i (.int .u8 0) Tryd.underlying22 hi hz0 hz1 rfl .i64 .i64 l.length rfl rfl (by rw [hz2]; omega) (by omega) ?_)
      | (refine wpList_copy_own rfl (.tmp 9) (.tmp 10) 22 22 rfl 5 Tryd.underlying22 (by kernel_rfl) w.heap.size 0 l.length l.length x l.length cap rfl rfl (madeCells #[.int .u8 0] l.length) 5 (heap_alloc_new w _) (bys l) (by rw [bys_length]; simp) (fun j u hj => cell_later ((Below.refl _ _).alloc (Nat.le_refl _) _) (HC.out j u hj)) (by simp [bys_length, size_madeCells]) bys_one ?_))
    go_wp2
    go_ret
    exact ⟨⟨_, rfl, own_copied w 5 _ l (by unfold maxLen; omega), .inr ⟨_, _, rfl⟩⟩, below_copied w 5 _ _ _⟩

theorem Reads.later {w w' : World} {v : Value} {l : List UInt8} (h : Reads w v l) (hb : Below w.heap.size w w') : Reads w' v l := by
  rcases h with ⟨h1, h2⟩ | ⟨x, cap, h1, h2⟩
  · exact .inl ⟨h1, h2⟩
  · exact .inr ⟨x, cap, h1, fun j u hj => cell_later hb (h2 j u hj)⟩

theorem lies_same {w w' : World} {base n c : Nat} {a : Option Addr} {l : List UInt8} (hO : Own w base 5 (.slice a n c) l) (hsame : ∀ b, Value.ownBlock (.slice a n c) = some b → w'.heap[b]? = w.heap[b]?) : Lies w' a 0 l := by
  intro j u hj
  obtain ⟨a1, cap1, hv, hr⟩ := hO.rd
  injection hv with h1 _ _
  obtain ⟨g, hg, hc⟩ := hr j u hj
  refine ⟨g, h1.trans hg, ?_⟩
  have e := hsame g (by rw [h1, hg]; rfl)
  rw [Nat.zero_add]
  unfold World.cell? at hc ⊢
  simp only [e]
  exact hc

theorem equal9n (a1 a2 : Option Addr) (o1 o2 n1 n2 cap1 cap2 : Nat) (L : List UInt8) (w : World) (e1 : L.length = n1) (e2 : L.length = n2) (h1 : Lies w a1 o1 L) (h2 : Lies w a2 o2 L) (hl : L.length ≤ 1099511627776) :
    Calls Tryd.prog 9 #[.slice a1 n1 cap1, .slice a2 n2 cap2] w fun e w' => e = .returned (.bool true) ∧ ∃ n, w' = w.drewN n := by
  subst e1
  rw [← e2]
  exact equal9 a1 a2 o1 o2 cap1 cap2 L w h1 h2 hl

theorem own_cells {w : World} {base g n c : Nat} {l : List UInt8} (h : Own w base 5 (.slice (some ⟨g, 0, none⟩) n c) l) : ∀ (j : Nat) (u : UInt8), l[j]? = some u → w.cell? ⟨g, j, none⟩ = some (.int .u8 (u.toNat : Int)) := by
  intro j u hj
  obtain ⟨a, cap, hv, hr⟩ := h.rd
  injection hv with h1 _ _
  obtain ⟨g2, hg, hc⟩ := hr j u hj
  rw [hg] at h1
  injection h1 with h1
  injection h1 with h1
  rw [h1]
  exact hc
theorem bel_step {w4 wk w' : World} {v v' : Value} {l : List UInt8} (hb : Below w4.heap.size w4 wk) (hO : Own wk w4.heap.size 5 v l) (hG : Grow wk v w' v') : Below w4.heap.size w4 w' :=
  hb.trans (hG.below hb.size hO.ge)
theorem bel_step_alloc {w4 wk w' : World} {v v' : Value} {l : List UInt8} (o : Obj) (hb : Below w4.heap.size w4 wk) (hO : Own wk w4.heap.size 5 v l) (hG : Grow (wk.alloc o) v w' v') : Below w4.heap.size w4 w' :=
  bel_step hb hO (((Grow.refl _ _).alloc o).trans hG)

theorem slice_of {w : World} {base : Nat} {v : Value} {l : List UInt8} (h : Own w base 5 v l) : ∃ a cap, v = .slice a l.length cap := by
  obtain ⟨a, cap, h1, _⟩ := h.shape
  exact ⟨a, cap, h1⟩
theorem slice_of_reads {w : World} {v : Value} {l : List UInt8} (h : Reads w v l) : ∃ a cap, v = .slice a l.length cap := by
  rcases h with ⟨rfl, rfl⟩ | ⟨x, cap, rfl, _⟩
  · exact ⟨none, 0, rfl⟩
  · exact ⟨_, cap, rfl⟩

set_option maxHeartbeats 8000000 in
set_option maxRecDepth 100000 in
theorem back_walk (v0 v1 v2 : Value) (l0 l1 l2 : List UInt8) (w : World) (hr0 : Reads w v0 l0) (hr1 : Reads w v1 l1) (hr2 : Reads w v2 l2) (hsz : l0.length + l1.length + l2.length ≤ 1048576) :
    Calls Tryd.prog 4 #[v0, v1, v2] w fun e w' => e = .returned (.bool true) ∧ Below w.heap.size w w' := by
  have HR0 : Hid (Reads w v0 l0) := hr0
  have HR1 : Hid (Reads w v1 l1) := hr1
  have HR2 : Hid (Reads w v2 l2) := hr2
  obtain ⟨x0, c0, rfl⟩ := slice_of_reads hr0
  obtain ⟨x1, c1, rfl⟩ := slice_of_reads hr1
  obtain ⟨x2, c2, rfl⟩ := slice_of_reads hr2
  clear hr0 hr1 hr2
  have hz : decide (l0.length + l1.length + l2.length ≤ 1048576) = true := decide_eq_true hsz
  obtain ⟨i0, hi, hz0, hz1, hz2⟩ := info_parts Tryd.info5
  go_enter Tryd.func4, Tryd.ntmps4
  go_wp2_with (go_at_call 10; refine (zzBytes10 _ _ _ _ _ _ _ _ _ _ (by unfold maxLen; omega) (by unfold maxLen; omega) (by unfold maxLen; omega)).mono ?_; rintro e w' ⟨rfl, hw⟩; rw [hw, hz]; clear hw)
  clear hz
  refine (copy6f _ l0 _ HR0.out (by omega)).mono ?_
  rintro e w1 ⟨⟨d0, rfl, hO0, hF0⟩, hb1⟩
  have HO0 : Hid (Own w1 w.heap.size 5 d0 l0) := hO0
  have HF0 : Hid (Full d0) := hF0
  have HB1 : Hid (Below w.heap.size w w1) := hb1
  have HLT0 : Hid (∀ k, d0.ownBlock = some k → k < w1.heap.size) := hO0.lt
  have hs1 := hb1.size
  have HR1' : Hid (Reads w1 (.slice x1 l1.length c1) l1) := HR1.out.later hb1
  have HR2' : Hid (Reads w1 (.slice x2 l2.length c2) l2) := HR2.out.later hb1
  clear hO0 hF0 hb1 HR0 HR1 HR2
  go_wp2_with fail
  refine (copy6f _ l1 w1 HR1'.out (by omega)).mono ?_
  rintro e w2 ⟨⟨d1, rfl, hO1, -⟩, hb2⟩
  have HO1 : Hid (Own w2 w1.heap.size 5 d1 l1) := hO1
  have HO0' : Hid (Own w2 w.heap.size 5 d0 l0) := HO0.out.below hb2
  have HB2 : Hid (Below w.heap.size w w2) := HB1.out.trans (hb2.mono hs1)
  have hs2 := hb2.size
  have HR2'' : Hid (Reads w2 (.slice x2 l2.length c2) l2) := HR2'.out.later hb2
  clear hO1 hb2 HO0 HB1 HR1' HR2'
  go_wp2_with fail
  refine (copy6f _ l2 w2 HR2''.out (by omega)).mono ?_
  rintro e w3 ⟨⟨d2, rfl, hO2, -⟩, hb3⟩
  have HO2 : Hid (Own w3 w2.heap.size 5 d2 l2) := hO2
  have HO1' : Hid (Own w3 w1.heap.size 5 d1 l1) := HO1.out.below hb3
  have HO0'' : Hid (Own w3 w.heap.size 5 d0 l0) := HO0'.out.below hb3
  have HB3 : Hid (Below w.heap.size w w3) := HB2.out.trans (hb3.mono (by omega))
  have hs3 := hb3.size
  clear hO2 hb3 HO0' HO1 HB2 HR2''
  go_wp2_with fail
  refine (esc7 d1 l1 _ w3 HO1'.out (by omega)).mono ?_
  rintro e w4 ⟨⟨vn, rfl, hOn⟩, hb4⟩
  have HON : Hid (Own w4 w3.heap.size 5 vn (esc l1)) := hOn
  have HP0 : Hid (Own w4 w.heap.size 5 d0 l0) := HO0''.out.below hb4
  have HP1 : Hid (Own w4 w1.heap.size 5 d1 l1) := HO1'.out.below hb4
  have HP2 : Hid (Own w4 w2.heap.size 5 d2 l2) := HO2.out.below hb4
  have HB4 : Hid (Below w.heap.size w w4) := HB3.out.trans (hb4.mono (by omega))
  have hs4 := hb4.size
  clear hOn hb4 HO0'' HO1' HO2 HB3
  obtain ⟨an, cn, rfl⟩ := slice_of HON.out
  obtain ⟨y0, e0, rfl⟩ := slice_of HP0.out
  obtain ⟨y1, e1, rfl⟩ := slice_of HP1.out
  obtain ⟨y2, e2, rfl⟩ := slice_of HP2.out
  obtain ⟨M, hM⟩ : ∃ M, M = (esc l1).length := ⟨_, rfl⟩
  have hMb : M ≤ 6291456 := by rw [hM]; have := esc_len l1; omega
  have HM : Hid (M = (esc l1).length) := hM
  rw [← hM]
  rw [← hM] at HON
  clear hM
  go_wp2_with (first
    | (at_make; refine wpList_make_own w4 rfl _ (.tmp 51) 22 rfl w4.heap.size 5 i0 (.int .u8 0) 1 Tryd.underlying22 hi hz0 hz1 .i64 .i64 _ (M + 2 + l2.length) rfl rfl (by omega) (by rw [hz2]; omega) (by unfold maxLen; omega) (Nat.le_refl _) ?_; intro w5 hR5 hG5; have hO5 : Own w5 w4.heap.size 5 (.slice (some ⟨w4.heap.size, 0, none⟩) 0 (M + 2 + l2.length)) [] := hR5; have hB5 : Below w4.heap.size w4 w5 := ⟨hG5.os, hG5.tape, hG5.output, hG5.size, fun k hk => hG5.block k hk (by simp)⟩; clear hR5 hG5)
    | (at_builtin; refine wpList_append_bytes _ rfl (.tmp 53) (.tmp 54) 22 22 rfl w4.heap.size 5 bt _ [] rfl (hO5.alloc _) _ rfl [34] (src_one _ Tryd.underlying22 w5.heap.size 1 34 (by simp)) (by simp) (by have := hB5.size; simp; omega) ?_; intro v6 w6 hO6 hG6; have hB6 := bel_step_alloc _ hB5 hO5 hG6; clear hG6)
    | (at_builtin; refine wpList_append_bytes _ rfl (.tmp 56) (.tmp 57) 22 22 rfl w4.heap.size 5 bt v6 _ rfl hO6 _ rfl (esc l1) (src_own Tryd.underlying22 (HON.out.below hB6)) (by have := HM.out; simp; omega) hB6.size ?_; intro v7 w7 hO7 hG7; have hB7 := bel_step hB6 hO6 hG7; clear hG7)
    | (at_builtin; refine wpList_append_bytes _ rfl (.tmp 59) (.tmp 60) 22 22 rfl w4.heap.size 5 bt v7 _ rfl (hO7.alloc _) _ rfl [34] (src_one _ Tryd.underlying22 w7.heap.size 1 34 (by simp)) (by have := HM.out; simp; omega) (by have := hB7.size; simp; omega) ?_; intro v8 w8 hO8 hG8; have hB8 := bel_step_alloc _ hB7 hO7 hG8; clear hG8)
    | (at_builtin; refine wpList_append_bytes _ rfl (.tmp 62) (.tmp 63) 22 22 rfl w4.heap.size 5 bt v8 _ rfl hO8 _ rfl l2 (src_own Tryd.underlying22 (HP2.out.below hB8)) (by have := HM.out; simp; omega) hB8.size ?_; intro v9 w9 hO9 hG9; have hB9 := bel_step hB8 hO8 hG9; clear hG9))
  have HD : Hid (Own w9 w4.heap.size 5 v9 (dat l1 l2)) := by
    show Own _ _ _ _ _
    have e : [] ++ [34] ++ esc l1 ++ [34] ++ l2 = dat l1 l2 := by simp [dat]
    rw [← e]
    exact hO9
  have HQ0 : Hid (Own w9 w.heap.size 5 (.slice y0 l0.length e0) l0) := HP0.out.below hB9
  have HQ1 : Hid (Own w9 w1.heap.size 5 (.slice y1 l1.length e1) l1) := HP1.out.below hB9
  have HB9 : Hid (Below w.heap.size w w9) := HB4.out.trans (hB9.mono (by omega))
  have hs9 := hB9.size
  clear hO5 hB5 hO6 hB6 hO7 hB7 hO8 hB8 hO9 hB9 HON HP0 HP1 HP2 HB4 hi hz0 hz1 hz2
  rcases HD.out.2 with ⟨_, h0⟩ | ⟨g, c9, cur, rfl, hgB, _, hn, _, _, _⟩
  · simp [dat] at h0
  have HCE : Hid (∀ (j : Nat) (u : UInt8), (dat l1 l2)[j]? = some u → w9.cell? ⟨g, j, none⟩ = some (.int .u8 (u.toNat : Int))) := own_cells HD.out
  have hg9 : g < w9.heap.size := HD.out.lt g rfl
  have hdl : (dat l1 l2).length = M + 2 + l2.length := by rw [dat_len, HM.out]
  have h11 := end11 l1 l2 g c9 w9 HCE.out hn (by omega)
  rw [← HM.out] at h11
  obtain ⟨N, hN⟩ : ∃ N, N = (dat l1 l2).length := ⟨_, rfl⟩
  rw [← hN] at h11 hn hdl ⊢
  have hNM : M + 2 ≤ N := by omega
  have hNb : N ≤ 8388608 := by omega
  have H11 : Hid (Calls Tryd.prog 11 #[.slice (some ⟨g, 0, none⟩) N c9, .int .i64 0] w9 fun e w' => e = .returned (.int .i64 ((M + 2 : Nat) : Int)) ∧ w' = w9) := h11
  clear h11 hN hdl HD
  refine H11.out.mono ?_
  rintro e w' ⟨rfl, hw⟩
  rw [hw, show ((M + 2 : Nat) : Int) = (M : Int) + 2 by omega]
  clear hw H11
  go_wp2_with fail
  have hne0 : Value.ownBlock (.slice y0 l0.length e0) ≠ some g := fun e => by have := HLT0.out g e; omega
  refine (un8 _ l0 l1 w.heap.size g (c9 - 1) M w9 HQ0.out HF0.out (by omega) hg9 hne0 HM.out (fun j u hj => HCE.out (1 + j) u (by
    rw [Nat.add_comm]
    unfold dat
    rw [List.getElem?_cons_succ, List.getElem?_append_left (List.getElem?_eq_some_iff.1 hj).1]
    exact hj)) (by omega) (by omega)).mono ?_
  rintro e w10 ⟨v10, rfl, hO10, hG10, hsame⟩
  have HL0 : Hid (Lies w10 y0 0 l0) := lies_same HQ0.out hsame
  have hQ1 : Own w10 w1.heap.size 5 (.slice y1 l1.length e1) l1 := HQ1.out.kept hG10 (by
    cases hv : Value.ownBlock (.slice y1 l1.length e1) with
    | none => exact .inl rfl
    | some k =>
      refine .inr fun e => ?_
      have h1 := HQ1.out.ge k hv
      have h2 := HLT0.out k e.symm
      omega)
  have HL1 : Hid (Lies w10 y1 0 l1) := lies_same hQ1 (fun _ _ => rfl)
  have HB10 : Hid (Below w.heap.size w w10) := HB9.out.trans (hG10.below (by omega) HQ0.out.ge)
  clear hne0 hsame hG10 hQ1 HQ0 HQ1 HB9 HCE HF0 HLT0 HM
  rcases hO10.2 with ⟨rfl, h0⟩ | ⟨g10, c10, cur, rfl, _, _, hn10, _⟩
  · rw [List.length_append] at h0
    have h00 : l0 = [] := List.eq_nil_of_length_eq_zero (by omega)
    have h01 : l1 = [] := List.eq_nil_of_length_eq_zero (by omega)
    subst h00 h01
    clear h0 hO10
    go_wp2_with fail
    refine (equal9n none y0 0 0 0 0 0 e0 [] w10 rfl rfl (fun j u hj => by simp at hj) HL0.out (by simp)).mono ?_
    rintro e w11 ⟨rfl, n11, hw11⟩
    have HW11 : Hid (w11 = w10.drewN n11) := hw11
    clear hw11
    go_wp2_with fail
    refine (equal9n none y1 0 0 0 0 0 e1 [] w11 rfl rfl (fun j u hj => by simp at hj) (by rw [HW11.out]; exact HL1.out) (by simp)).mono ?_
    rintro e w12 ⟨rfl, n12, hw12⟩
    have HW12 : Hid (w12 = w11.drewN n12) := hw12
    clear hw12
    go_wp2
    go_ret
    exact ⟨rfl, by rw [HW12.out, HW11.out]; exact HB10.out.trans ⟨rfl, rfl, rfl, Nat.le_refl _, fun _ _ => rfl⟩⟩
  · have hce := own_cells hO10
    have HG0 : Hid (Lies w10 (some ⟨g10, 0, none⟩) 0 l0) := fun j u hj => ⟨g10, rfl, by
      rw [Nat.zero_add]
      exact hce j u (by rw [List.getElem?_append_left (List.getElem?_eq_some_iff.1 hj).1]; exact hj)⟩
    have HG1 : Hid (Lies w10 (some ⟨g10, l0.length, none⟩) l0.length l1) := fun j u hj => ⟨g10, rfl, hce (l0.length + j) u (by rw [List.getElem?_append_right (by omega), Nat.add_sub_cancel_left]; exact hj)⟩
    clear hce hO10
    have HZ0 : Hid (l0.length ≤ 1099511627776) := by show _ ≤ _; omega
    have HZ1 : Hid (l1.length ≤ 1099511627776) := by show _ ≤ _; omega
    rw [List.length_append] at hn10 ⊢
    by_cases hcc : l0.length < c10
    rotate_left
    · have hl1 : l1 = [] := List.eq_nil_of_length_eq_zero (by omega)
      have hcc' : c10 = l0.length := by omega
      subst hl1
      subst hcc'
      clear hcc hn10
      go_wp2_with fail
      refine (equal9n (some ⟨g10, 0, none⟩) y0 0 0 l0.length l0.length l0.length e0 l0 w10 rfl rfl HG0.out HL0.out HZ0.out).mono ?_
      rintro e w11 ⟨rfl, n11, hw11⟩
      have HW11 : Hid (w11 = w10.drewN n11) := hw11
      clear hw11
      go_wp2_with fail
      refine (equal9n (some ⟨g10, 0, none⟩) y1 0 0 0 0 0 e1 [] w11 rfl rfl (fun j u hj => by simp at hj) (fun j u hj => by simp at hj) (by simp)).mono ?_
      rintro e w12 ⟨rfl, n12, hw12⟩
      have HW12 : Hid (w12 = w11.drewN n12) := hw12
      clear hw12
      go_wp2
      go_ret
      exact ⟨rfl, by rw [HW12.out, HW11.out]; exact HB10.out.trans ⟨rfl, rfl, rfl, Nat.le_refl _, fun _ _ => rfl⟩⟩
    go_wp2_with fail
    refine (equal9n (some ⟨g10, 0, none⟩) y0 0 0 l0.length l0.length c10 e0 l0 w10 rfl rfl HG0.out HL0.out HZ0.out).mono ?_
    rintro e w11 ⟨rfl, n11, hw11⟩
    have HW11 : Hid (w11 = w10.drewN n11) := hw11
    clear hw11
    go_wp2_with fail
    refine (equal9n (some ⟨g10, l0.length, none⟩) y1 l0.length 0 l1.length l1.length (c10 - l0.length) e1 l1 w11 rfl rfl (by rw [HW11.out]; exact HG1.out) (by rw [HW11.out]; exact HL1.out) HZ1.out).mono ?_
    rintro e w12 ⟨rfl, n12, hw12⟩
    have HW12 : Hid (w12 = w11.drewN n12) := hw12
    clear hw12
    go_wp2
    go_ret
    exact ⟨rfl, by rw [HW12.out, HW11.out]; exact HB10.out.trans ⟨rfl, rfl, rfl, Nat.le_refl _, fun _ _ => rfl⟩⟩

set_option maxHeartbeats 1000000 in
theorem back_long (v0 v1 v2 : Value) (l0 l1 l2 : List UInt8) (w : World) (hr0 : Reads w v0 l0) (hr1 : Reads w v1 l1) (hr2 : Reads w v2 l2) (h0 : l0.length ≤ maxLen) (h1 : l1.length ≤ maxLen) (h2 : l2.length ≤ maxLen) (hbig : ¬ l0.length + l1.length + l2.length ≤ 1048576) :
    Calls Tryd.prog 4 #[v0, v1, v2] w fun e w' => e = .returned (.bool true) ∧ Below w.heap.size w w' := by
  obtain ⟨x0, c0, rfl⟩ := slice_of_reads hr0
  obtain ⟨x1, c1, rfl⟩ := slice_of_reads hr1
  obtain ⟨x2, c2, rfl⟩ := slice_of_reads hr2
  clear hr0 hr1 hr2
  have hz : decide (l0.length + l1.length + l2.length ≤ 1048576) = false := decide_eq_false hbig
  go_enter Tryd.func4, Tryd.ntmps4
  go_wp2_with (go_at_call 10; refine (zzBytes10 _ _ _ _ _ _ _ _ _ _ h0 h1 h2).mono ?_; rintro e w' ⟨rfl, rfl⟩; rw [hz])
  go_ret
  exact ⟨rfl, Below.refl _ _⟩

/-- What the frame tells of a slice of bytes that came in. -/
def IsRow (k : IntKind) (w : World) (a : Option Addr) (len cap : Nat) (zs : List Int) : Prop :=
  (a = none ∧ len = 0 ∧ cap = 0 ∧ zs = []) ∨
  ∃ x, a = some x ∧ len ≤ cap ∧ cap ≤ maxLen ∧ zs.length = cap ∧ (∀ i, i < zs.length → w.cell? (x.add i) = some (.int k (zs.getD i 0))) ∧ ∀ n ∈ zs, (Lit.int k n).wf = true

theorem back_top (a0 a1 a2 : Option Addr) (len0 len1 len2 cap0 cap1 cap2 : Nat) (z0 z1 z2 : List Int) (w : World) (h0 : IsRow .u8 w a0 len0 cap0 z0) (h1 : IsRow .u8 w a1 len1 cap1 z1) (h2 : IsRow .u8 w a2 len2 cap2 z2) :
    Calls Tryd.prog 4 #[.slice a0 len0 cap0, .slice a1 len1 cap1, .slice a2 len2 cap2] w fun e w' => e = .returned (.bool true) ∧ Below w.heap.size w w' := by
  obtain ⟨l0, e0, m0, r0⟩ := reads_of_row w a0 len0 cap0 z0 h0
  obtain ⟨l1, e1, m1, r1⟩ := reads_of_row w a1 len1 cap1 z1 h1
  obtain ⟨l2, e2, m2, r2⟩ := reads_of_row w a2 len2 cap2 z2 h2
  by_cases hs : l0.length + l1.length + l2.length ≤ 1048576
  · exact back_walk _ _ _ l0 l1 l2 w r0 r1 r2 hs
  · exact back_long _ _ _ l0 l1 l2 w r0 r1 r2 (by omega) (by omega) (by omega) hs
end Go.Proofs.Qxb6606064aDoor
