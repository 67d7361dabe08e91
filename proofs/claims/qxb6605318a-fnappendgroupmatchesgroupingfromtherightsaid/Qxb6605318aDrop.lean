/-
  The walk of FnAppendGroupDropCommasGivesTextBack.
-/
import Derived.Test.Qxb6605318aApp
import Derived.Test.Qxb6605318aWhole
import Derived.OpenShut
namespace Go.Proofs.Qxb6605318a
open Go.RowKit

/-- Of the first t bytes of g: how many are no commas, how many are. -/
def nk (g : List UInt8) (t : Nat) : Nat := ((g.take t).filter keep).length
def nc (g : List UInt8) (t : Nat) : Nat := (g.take t).count 44

theorem nk_le (g : List UInt8) (t : Nat) : nk g t ≤ t ∧ nk g t ≤ (g.filter keep).length := by
  unfold nk
  refine ⟨Nat.le_trans (List.length_filter_le _ _) (List.length_take_le _ _), ?_⟩
  exact ((List.take_sublist t g).filter keep).length_le
theorem nc_le (g : List UInt8) (t : Nat) : nc g t ≤ t := Nat.le_trans List.count_le_length (List.length_take_le _ _)
theorem take_snoc (g : List UInt8) (t : Nat) (h : t < g.length) : g.take (t + 1) = g.take t ++ [g[t]] := List.take_succ_eq_append_getElem h
theorem step_comma {g : List UInt8} {t : Nat} (h : t < g.length) (hc : g[t] = 44) : nk g (t + 1) = nk g t ∧ nc g (t + 1) = nc g t + 1 := by
  unfold nk nc
  rw [take_snoc g t h, hc, List.filter_append, List.count_append]
  simp [keep]
theorem step_other {g : List UInt8} {t : Nat} (h : t < g.length) (hc : g[t] ≠ 44) : nk g (t + 1) = nk g t + 1 ∧ nc g (t + 1) = nc g t ∧ (g.filter keep)[nk g t]? = some g[t] := by
  have hk : keep g[t] = true := by unfold keep; simpa using hc
  refine ⟨?_, ?_, ?_⟩
  · unfold nk
    rw [take_snoc g t h, List.filter_append]
    simp [hk]
  · unfold nc
    rw [take_snoc g t h, List.count_append, List.count_singleton]
    simp [hc]
  · have e : g.filter keep = (g.take t).filter keep ++ (g[t] :: (g.drop (t + 1)).filter keep) := by
      conv => lhs; rw [← List.take_append_drop t g, List.drop_eq_getElem_cons h, List.filter_append, List.filter_cons]
      rw [if_pos hk]
    rw [e]
    unfold nk
    simp
theorem nk_end (g : List UInt8) : nk g g.length = (g.filter keep).length := by unfold nk; rw [List.take_length]
theorem nc_end (g : List UInt8) : nc g g.length = g.count 44 := by unfold nc; rw [List.take_length]

theorem group_le (l : List UInt8) : (groupL l).length ≤ 4 * l.length + 4 := by
  have h1 := grp_le ((dotCut (Lib.trimPrefix l [45])).1.drop ((dotCut (Lib.trimPrefix l [45])).1.length - 3 * commas (dotCut (Lib.trimPrefix l [45])).1.length)) (commas (dotCut (Lib.trimPrefix l [45])).1.length)
  have h2 := commas_le (dotCut (Lib.trimPrefix l [45])).1.length
  have h3 := cut_sizes (Lib.trimPrefix l [45])
  have h4 := Lib.trimPrefix_le l [45]
  have h5 : (sgn l).length ≤ 1 := by unfold sgn; split <;> simp
  have h6 : (if (dotCut (Lib.trimPrefix l [45])).2.2 = true then 46 :: (dotCut (Lib.trimPrefix l [45])).2.1 else []).length ≤ (dotCut (Lib.trimPrefix l [45])).2.1.length + 1 := by split <;> simp
  unfold groupL whole3
  rw [List.length_append, List.length_append, List.length_append, List.length_take]
  omega

set_option maxHeartbeats 1000000 in
/-- A text with a comma: true at once. A text too long: true at once. -/
theorem drop_long (v : Value) (l : List UInt8) (text : ByteArray) (w : World) (hr : Reads w v l) (hl : l.length ≤ maxLen) (ht : text.size ≤ maxLen) (hbig : ¬ l.length + text.size ≤ 1048576) :
    Calls Try.prog 7 #[v, .string text] w fun e w' => e = .returned (.bool true) ∧ Below w.heap.size w w' := by
  obtain ⟨a, cap, rfl⟩ : ∃ a cap, v = .slice a l.length cap := by
    rcases hr with ⟨rfl, rfl⟩ | ⟨x, cap, rfl, _⟩
    · exact ⟨none, 0, rfl⟩
    · exact ⟨_, cap, rfl⟩
  have hz : decide (l.length + text.size ≤ 1048576) = false := decide_eq_false hbig
  go_enter Try.func7, Try.ntmps7
  go_wp2_with (go_at_call 22; refine (zzBytes22_any _ _ _ _ _ ht hl).mono ?_; rintro e w' ⟨rfl, rfl⟩; rw [hz])
  go_ret
  exact ⟨rfl, Below.refl _ _⟩

theorem Own.below {w w' : World} {base : Nat} {e : TypeId} {v : Value} {l : List UInt8} (h : Own w base e v l) (hb : Below w.heap.size w w') : Own w' base e v l :=
  World.ownsRow.kept (row := none) h ⟨hb.os, hb.tape, hb.output, hb.size, fun k hk _ => hb.block k hk⟩ (by
    cases hv : v.ownBlock
    · exact .inl rfl
    · exact .inr (by simp))
theorem Own.mono {w : World} {base base' : Nat} {e : TypeId} {v : Value} {l : List UInt8} (h : Own w base e v l) (hb : base' ≤ base) : Own w base' e v l := by
  obtain ⟨h1, h2⟩ := h
  refine ⟨h1, ?_⟩
  rcases h2 with h2 | ⟨g, cap, cur, hv, hg, r⟩
  · exact .inl h2
  · exact .inr ⟨g, cap, cur, hv, Nat.le_trans hb hg, r⟩

/-- How an owned slice is read. -/
theorem Own.rd {w : World} {base : Nat} {e : TypeId} {v : Value} {l : List UInt8} (h : Own w base e v l) :
    ∃ a cap, v = .slice a l.length cap ∧ ∀ (j : Nat) (u : UInt8), l[j]? = some u → ∃ g, a = some ⟨g, 0, none⟩ ∧ w.cell? ⟨g, j, none⟩ = some (.int .u8 (u.toNat : Int)) := by
  obtain ⟨a, cap, hv, _⟩ := h.shape
  refine ⟨a, cap, hv, fun j u hj => ?_⟩
  obtain ⟨hl, he⟩ := List.getElem?_eq_some_iff.1 hj
  obtain ⟨g, c, hv2, hc⟩ := h.cell hl
  rw [hv] at hv2
  injection hv2 with h1 h2 h3
  exact ⟨g, h1, by rw [hc, he]⟩

set_option maxHeartbeats 4000000 in
theorem drop_walk (v : Value) (l : List UInt8) (text : ByteArray) (w : World) (hr : Reads w v l) (hsz : l.length + text.size ≤ 1048576) :
    Calls Try.prog 7 #[v, .string text] w fun e w' => e = .returned (.bool true) ∧ Below w.heap.size w w' := by
  have HRD : Hid (Reads w v l) := hr
  obtain ⟨a, cap, rfl⟩ : ∃ a cap, v = .slice a l.length cap := by
    rcases hr with ⟨rfl, rfl⟩ | ⟨x, cap, rfl, _⟩
    · exact ⟨none, 0, rfl⟩
    · exact ⟨_, cap, rfl⟩
  clear hr
  have hz : decide (l.length + text.size ≤ 1048576) = true := decide_eq_true hsz
  go_enter Try.func7, Try.ntmps7
  go_wp2_with (go_at_call 22; refine (zzBytes22_any _ _ _ _ _ (by unfold maxLen; omega) (by unfold maxLen; omega)).mono ?_; rintro e w' ⟨rfl, hw⟩; rw [hw, hz]; clear hw)
  clear hz
  go_loop [4, 5] (fun _ i => ∃ k : Nat, k ≤ text.size ∧ i = .int .i64 k ∧ Hid (∀ i, i < k → text.data.toList[i]? ≠ some 44)) (fun _ i => text.size - (intOf i).toNat)
  case atStart => exact ⟨0, Nat.zero_le _, rfl, fun i h0 => by omega⟩
  case round =>
    obtain ⟨k, hk, rfl, HK⟩ := hrel
    by_cases hlt : k < text.size
    · by_cases heq : text[k] = 44
      · have hd2 : ((text[k].toNat : Int) == 44) = true := by rw [heq]; rfl
        clear heq
        go_wp2
        go_ret
        exact ⟨rfl, Below.refl _ _⟩
      · have hd2 : ((text[k].toNat : Int) == 44) = false := by
          simp; intro h; exact heq (UInt8.toNat_inj.1 (by simpa using (by omega : text[k].toNat = 44)))
        have HE : Hid (text.data.toList[k]? ≠ some 44) := by show _ ≠ _; rw [Lib.data_getElem? text k hlt]; intro e; exact heq (Option.some.inj e)
        clear heq
        go_wp2
        go_round
        case rel => exact ⟨k + 1, by omega, by go_num, fun i hi => if e : i = k then by subst e; exact HE.out else HK.out i (by omega)⟩
        case measure => simp [intOf]; omega
    · have HN : Hid (∀ b ∈ text.data.toList, b ≠ 44) := by
        intro b hb e
        obtain ⟨i, hi⟩ := List.mem_iff_getElem?.1 hb
        have hil := (List.getElem?_eq_some_iff.1 hi).1
        rw [← Lib.size_eq] at hil
        exact HK.out i (by omega) (by rw [hi, e])
      clear HK
      go_wp2_with fail
      refine (clone_any _ l _ HRD.out (by omega)).mono ?_
      rintro e w1 ⟨⟨v1, rfl, hO1, _⟩, hb1⟩
      have HO1 : Hid (Own w1 w.heap.size 5 v1 l) := hO1
      have HB1 : Hid (Below w.heap.size w w1) := hb1
      clear hO1 hb1
      have hs1 := HB1.out.size
      go_wp2_with fail
      refine (clone_any v1 l w1 HO1.out.reads (by omega)).mono ?_
      rintro e w2 ⟨⟨v2, rfl, hO2, _⟩, hb2⟩
      have HO2 : Hid (Own w2 w1.heap.size 5 v2 l) := hO2
      have HB2 : Hid (Below w.heap.size w w2) := HB1.out.trans (hb2.mono hs1)
      have HO1' : Hid (Own w2 w.heap.size 5 v1 l) := HO1.out.below hb2
      have hs2 := HB2.out.size
      have hne12 : v2.ownBlock = none ∨ v2.ownBlock ≠ v1.ownBlock := by
        cases hv : v2.ownBlock with
        | none => exact .inl rfl
        | some k =>
          refine .inr fun e => ?_
          have h1 := hO2.ge k hv
          have h2 := HO1.out.lt k e.symm
          omega
      have HNE : Hid (v2.ownBlock = none ∨ v2.ownBlock ≠ v1.ownBlock) := hne12
      clear hO2 hb2 HO1 HB1 hne12
      go_wp2_with fail
      refine (ag_any v1 l text w.heap.size w2 HO1'.out hs2 hsz).mono ?_
      rintro e w3 ⟨v3, rfl, hO3, hG3⟩
      have HO2' : Hid (Own w3 w1.heap.size 5 v2 l) := HO2.out.kept hG3 HNE.out
      have HB3 : Hid (Below w.heap.size w w3) := HB2.out.trans (hG3.below hs2 HO1'.out.ge)
      obtain ⟨a3, cap3, rfl, hrd3⟩ := hO3.rd
      obtain ⟨a2, cap2, rfl, hrd2⟩ := HO2'.out.rd
      have HR3 : Hid (∀ (j : Nat) (u : UInt8), (l ++ groupL text.data.toList)[j]? = some u → ∃ g, a3 = some ⟨g, 0, none⟩ ∧ w3.cell? ⟨g, j, none⟩ = some (.int .u8 (u.toNat : Int))) := hrd3
      have HR2 : Hid (∀ (j : Nat) (u : UInt8), l[j]? = some u → ∃ g, a2 = some ⟨g, 0, none⟩ ∧ w3.cell? ⟨g, j, none⟩ = some (.int .u8 (u.toNat : Int))) := hrd2
      clear hrd3 hrd2 hO3 hG3 HO2 HO2' HO1' HNE HB2
      obtain ⟨g, hg⟩ : ∃ g, g = groupL text.data.toList := ⟨_, rfl⟩
      rw [← hg] at HR3
      have HGK : Hid (g.filter keep = text.data.toList) := by show _ = _; rw [hg]; exact group_keep HN.out
      have HGC : Hid (g.count 44 = commas (wholeN text.data.toList)) := by show _ = _; rw [hg]; exact group_count HN.out
      have hgl : g.length ≤ 4 * text.size + 4 := by rw [hg, Lib.size_eq]; exact group_le _
      have hlen : (l ++ groupL text.data.toList).length = l.length + g.length := by rw [hg, List.length_append]
      rw [hlen]
      clear hg hlen HN
      go_wp2_with fail
      go_loopw [4, 8] (fun _ i wr => ∃ i1 n : Nat, i1 ≤ l.length ∧ i = .int .i64 i1 ∧ wr = w3.drewN n) (fun _ i _ => l.length - (intOf i).toNat)
      case atStart => exact ⟨0, 0, Nat.zero_le _, rfl, rfl⟩
      case round =>
        obtain ⟨i1, n, hi1, rfl, rfl⟩ := hrel
        by_cases hl1 : i1 < l.length
        · obtain ⟨u, hu⟩ : ∃ u, l[i1]? = some u := ⟨l[i1], List.getElem?_eq_getElem hl1⟩
          obtain ⟨g3, rfl, hc3⟩ := HR3.out i1 u (by rw [List.getElem?_append_left hl1]; exact hu)
          obtain ⟨g2, rfl, hc2⟩ := HR2.out i1 u hu
          clear hu
          have hix : (i1 : Int) < (l.length : Int) + (g.length : Int) := by omega
          go_wp2
          go_quiet (fail)
          go_wp2
          go_roundw
          case rel => exact ⟨i1 + 1, _, by omega, by go_num, rfl⟩
          case measure => simp [intOf]; omega
        · go_wp2
          go_loopw [4, 9, 10, 11, 12] (fun _ c j i _ wr => ∃ t jj cc : Nat, t ≤ g.length ∧ i = .int .i64 ((l.length : Int) + (t : Int)) ∧ j = .int .i64 jj ∧ c = .int .i64 cc ∧ Hid (jj = nk g t) ∧ Hid (cc = nc g t) ∧ wr = w3.drewN n) (fun _ _ _ i _ _ => l.length + g.length - (intOf i).toNat)
          case atStart => exact ⟨0, 0, 0, Nat.zero_le _, by go_num, rfl, rfl, rfl, rfl, rfl⟩
          case round =>
            obtain ⟨t, jj, cc, htg, rfl, rfl, rfl, HJ, HC, rfl⟩ := hrel
            have hj1 := (nk_le g t).1
            have hj2 := (nk_le g t).2
            rw [HGK.out, ← Lib.size_eq] at hj2
            rw [← HJ.out] at hj1 hj2
            have hcc := nc_le g t
            rw [← HC.out] at hcc
            by_cases ht : t < g.length
            · obtain ⟨u, hu⟩ : ∃ u, g[t] = u := ⟨_, rfl⟩
              obtain ⟨g3, rfl, hc3⟩ := HR3.out (l.length + t) u (by rw [List.getElem?_append_right (by omega)]; simp [ht, hu])
              by_cases h44 : u = 44
              · have hd : ((u.toNat : Int) == 44) = true := by rw [h44]; rfl
                have HS := step_comma ht (hu.trans h44)
                have HJ' : Hid (jj = nk g (t + 1)) := by show _ = _; rw [HS.1]; exact HJ.out
                have HC' : Hid (cc + 1 = nc g (t + 1)) := by show _ = _; rw [HS.2, HC.out]
                clear HS hu h44 HJ HC
                go_wp2
                go_roundw
                case rel => exact ⟨t + 1, jj, cc + 1, by omega, by go_num, rfl, by go_num, HJ', HC', trivial⟩
                case measure => simp [intOf]; omega
              · have hd : ((u.toNat : Int) == 44) = false := by
                  simp; intro h; exact h44 (UInt8.toNat_inj.1 (by simpa using (by omega : u.toNat = 44)))
                have HS := step_other ht (by rw [hu]; exact h44)
                have HJ' : Hid (jj + 1 = nk g (t + 1)) := by show _ = _; rw [HS.1, HJ.out]
                have HC' : Hid (cc = nc g (t + 1)) := by show _ = _; rw [HS.2.1]; exact HC.out
                have hx := HS.2.2
                rw [HGK.out, ← HJ.out, hu] at hx
                have hjs : jj < text.size := by rw [Lib.size_eq]; exact (List.getElem?_eq_some_iff.1 hx).1
                have hxe : text[jj] = u := by rw [Lib.data_getElem? text jj hjs] at hx; exact Option.some.inj hx
                have hdx : ((text[jj].toNat : Int) != (u.toNat : Int)) = false := by rw [hxe]; simp
                clear HS hx hxe hu h44 HJ HC
                go_wp2
                go_roundw
                case rel => exact ⟨t + 1, jj + 1, cc, by omega, by go_num, by go_num, rfl, HJ', HC', trivial⟩
                case measure => simp [intOf]; omega
            · have hte : t = g.length := by omega
              have hjt : jj = text.size := by rw [HJ.out, hte, nk_end, HGK.out, ← Lib.size_eq]
              have hct : cc = commas (wholeN text.data.toList) := by rw [HC.out, hte, nc_end, HGC.out]
              have hjd : ((jj : Int) != (text.size : Int)) = false := by rw [hjt]; simp
              obtain ⟨W, hW⟩ : ∃ W, W = wholeN text.data.toList := ⟨_, rfl⟩
              have hwl : W ≤ text.size := by
                rw [hW, Lib.size_eq]
                have h3 := cut_sizes (Lib.trimPrefix text.data.toList [45])
                have h4 := Lib.trimPrefix_le text.data.toList [45]
                unfold wholeN
                omega
              rw [← hW] at hct
              unfold commas at hct
              have HW : Hid (W = wholeN text.data.toList) := hW
              have h23 := whole23 text (w3.drewN n) (by omega)
              rw [← hW] at h23
              have H23 : Hid (Calls Try.prog 23 #[.string text] (w3.drewN n) fun e w' => e = .returned (.int .i64 (W : Nat)) ∧ w' = w3.drewN n) := h23
              clear hte hjt hW h23 HJ HC
              by_cases hW0 : 0 < W
              · have hW1 : (1 : Int) ≤ (W : Int) := by omega
                have hcd : ((cc : Int) == ((W : Int) - 1) / 3) = true := by simp; omega
                clear hct
                go_wp2_with (go_at_call 23; refine H23.out.mono ?_; rintro e w' ⟨rfl, hw⟩; rw [hw]; clear hw)
                go_ret
                exact ⟨rfl, HB3.out.trans ⟨rfl, rfl, rfl, Nat.le_refl _, fun _ _ => rfl⟩⟩
              · have hcd : ((cc : Int) == 0) = true := by simp; omega
                clear hct
                go_wp2_with (go_at_call 23; refine H23.out.mono ?_; rintro e w' ⟨rfl, hw⟩; rw [hw]; clear hw)
                go_ret
                exact ⟨rfl, HB3.out.trans ⟨rfl, rfl, rfl, Nat.le_refl _, fun _ _ => rfl⟩⟩

/-- What the frame tells of a slice of bytes that came in, in this text's words. -/
theorem reads_of_row (w : World) (a : Option Addr) (len cap : Nat) (zs : List Int)
    (h : (a = none ∧ len = 0 ∧ cap = 0 ∧ zs = []) ∨ ∃ x, a = some x ∧ len ≤ cap ∧ cap ≤ maxLen ∧ zs.length = cap ∧ (∀ i, i < zs.length → w.cell? (x.add i) = some (.int .u8 (zs.getD i 0))) ∧ ∀ n ∈ zs, (Lit.int .u8 n).wf = true) :
    ∃ l : List UInt8, l.length = len ∧ len ≤ maxLen ∧ Reads w (.slice a len cap) l := by
  rcases h with ⟨rfl, rfl, rfl, rfl⟩ | ⟨x, rfl, h1, h2, h3, h4, h5⟩
  · exact ⟨[], rfl, Nat.zero_le _, .inl ⟨rfl, rfl⟩⟩
  · have hl : ((zs.take len).map (fun n => UInt8.ofNat n.toNat)).length = len := by simp; omega
    refine ⟨(zs.take len).map (fun n => UInt8.ofNat n.toNat), hl, Nat.le_trans h1 h2, .inr ⟨x, cap, by rw [hl], fun j u hj => ?_⟩⟩
    unfold bys at hj
    rw [List.getElem?_map] at hj
    obtain ⟨b, hb, rfl⟩ := Option.map_eq_some_iff.1 hj
    rw [List.getElem?_map] at hb
    obtain ⟨n, hn, rfl⟩ := Option.map_eq_some_iff.1 hb
    rw [List.getElem?_take] at hn
    split at hn
    · have hz := List.getElem?_eq_some_iff.1 hn
      obtain ⟨hz1, hz2⟩ := hz
      rw [h4 j hz1]
      have hw := h5 n (by rw [← hz2]; exact List.getElem_mem _)
      have hb := bounds_u8 hw
      have e : zs.getD j 0 = n := by rw [List.getD_eq_getElem?_getD, hn]; rfl
      rw [e]
      have e2 : ((UInt8.ofNat n.toNat).toNat : Int) = n := by
        simp
        omega
      rw [e2]
    · cases hn

theorem drop_top (a : Option Addr) (len cap : Nat) (zs : List Int) (text : ByteArray) (w : World)
    (h : (a = none ∧ len = 0 ∧ cap = 0 ∧ zs = []) ∨ ∃ x, a = some x ∧ len ≤ cap ∧ cap ≤ maxLen ∧ zs.length = cap ∧ (∀ i, i < zs.length → w.cell? (x.add i) = some (.int .u8 (zs.getD i 0))) ∧ ∀ n ∈ zs, (Lit.int .u8 n).wf = true)
    (ht : text.size ≤ maxLen) :
    Calls Try.prog 7 #[.slice a len cap, .string text] w fun e w' => e = .returned (.bool true) ∧ Below w.heap.size w w' := by
  obtain ⟨l, hl, hm, hr⟩ := reads_of_row w a len cap zs h
  by_cases hs : l.length + text.size ≤ 1048576
  · exact drop_walk _ l text w hr hs
  · exact drop_long _ l text w hr (by omega) ht hs
end Go.Proofs.Qxb6605318a
