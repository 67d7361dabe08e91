/-
  The walk of unescape at the text that zzCanonicalEscape writes.
-/
import Derived.Test.Qxb6606064aDoorFull
import Derived.Laws.IdiomStrings
import Derived.Lib.AtoiErrMem
namespace Go.Proofs.Qxb6606064aDoor
open Go.RowKit

theorem Grow.ofBelow {w w1 : World} {v : Value} (h : Below w.heap.size w w1) : Grow w v w1 v := ⟨⟨h.os, h.tape, h.output, h.size, fun k hk _ => h.block k hk⟩, fun _ h => .inl h⟩

theorem Grow.cell {w w1 : World} {v v1 : Value} {g j : Nat} {x : Value} (h : Grow w v w1 v1) (hg : g < w.heap.size) (hne : v.ownBlock ≠ some g) (hc : w.cell? ⟨g, j, none⟩ = some x) : w1.cell? ⟨g, j, none⟩ = some x := by
  have e := h.by_.block g hg (fun e => hne e.symm)
  unfold World.cell? at hc ⊢
  simp only [e]
  exact hc

theorem esc_at {s : List UInt8} {k : Nat} {u : UInt8} (hu : s[k]? = some u) {j : Nat} {x : UInt8} (hj : (esc1 u)[j]? = some x) : (esc s)[(esc (s.take k)).length + j]? = some x := by
  obtain ⟨hl, he⟩ := List.getElem?_eq_some_iff.1 hu
  obtain ⟨hj1, hj2⟩ := List.getElem?_eq_some_iff.1 hj
  have e : esc s = esc (s.take k) ++ (esc1 u ++ esc (s.drop (k + 1))) := by
    conv => lhs; rw [← List.take_append_drop k s, List.drop_eq_getElem_cons hl, esc_append, esc_cons, he]
  rw [e, List.getElem?_append_right (by omega), Nat.add_sub_cancel_left, List.getElem?_append_left hj1]
  exact hj
theorem esc_next {s : List UInt8} {k : Nat} {u : UInt8} (hu : s[k]? = some u) : (esc (s.take (k + 1))).length = (esc (s.take k)).length + (esc1 u).length ∧ (esc (s.take (k + 1))).length ≤ (esc s).length := by
  obtain ⟨hl, he⟩ := List.getElem?_eq_some_iff.1 hu
  refine ⟨by rw [take_snoc s k hl, esc_append, esc_one, he, List.length_append], ?_⟩
  conv => rhs; rw [← List.take_append_drop (k + 1) s, esc_append, List.length_append]
  omega

theorem hexd_hex : ∀ v, v < 16 → isHex (hexd v) ∧ dg (hexd v) = (v : Int) := by unfold isHex; decide
theorem hex_of : ∀ n, n < 32 → (∀ c ∈ [48, 48, hexd (n / 16), hexd (n % 16)], isHex c) ∧ (∀ k, k ≤ 4 → 0 ≤ hv ([48, 48, hexd (n / 16), hexd (n % 16)].take k) ∧ hv ([48, 48, hexd (n / 16), hexd (n % 16)].take k) ≤ 255) ∧ hv [48, 48, hexd (n / 16), hexd (n % 16)] = (n : Int) := by
  unfold isHex
  decide

/-- A slice without spare room. -/
def Full (v : Value) : Prop := v = .slice none 0 0 ∨ ∃ g n, v = .slice (some ⟨g, 0, none⟩) n n

/-- Where the walk stands: the first k bytes of s are appended to d; the row of v is not written. -/
structure UnAt (w : World) (v : Value) (base : Nat) (d s : List UInt8) (k : Nat) (wr : World) (vr : Value) : Prop where
  own : Own wr base 5 vr (d ++ s.take k)
  grow : Grow w v wr vr
  same : ∀ b, v.ownBlock = some b → wr.heap[b]? = w.heap[b]?
  way : vr = v ∨ ∀ b, vr.ownBlock = some b → w.heap.size ≤ b

theorem un_next {w wr wa w2 : World} {v vr v2 : Value} {base : Nat} {d s : List UInt8} {k : Nat} {u : UInt8} (hfull : Full v) (hlt : ∀ b, v.ownBlock = some b → b < w.heap.size) (h : UnAt w v base d s k wr vr) (hu : s[k]? = some u)
    (hb : Below wr.heap.size wr wa) (hO : Own w2 base 5 v2 (d ++ s.take k ++ [u])) (hG : Grow wa vr w2 v2) (hK : Keep wa vr [u].length w2 v2) : UnAt w v base d s (k + 1) w2 v2 := by
  obtain ⟨hl, he⟩ := List.getElem?_eq_some_iff.1 hu
  have hs1 := h.grow.by_.size
  have hs2 := hb.size
  refine ⟨?_, h.grow.trans ((Grow.ofBelow hb).trans hG), ?_, ?_⟩
  · rw [take_snoc s k hl, he, ← List.append_assoc]
    exact hO
  · intro b hvb
    have hbl := hlt b hvb
    have e1 : wa.heap[b]? = w.heap[b]? := (hb.block b (by omega)).trans (h.same b hvb)
    rw [← e1]
    rcases h.way with rfl | hf
    · rcases hK with ⟨a, n, cap, hv, hn⟩ | ⟨hg, _⟩
      · rcases hfull with hv2 | ⟨g, n2, hv2⟩
        · rw [hv2] at hvb
          simp [Value.ownBlock] at hvb
        · rw [hv2] at hv
          injection hv with _ h2 h3
          simp at hn
          omega
      · exact hg.block b (by omega) (by simp)
    · exact hG.by_.block b (by omega) (fun e => by have := hf b e.symm; omega)
  · refine .inr fun b hvb => ?_
    rcases h.way with rfl | hf
    · rcases hK with ⟨a, n, cap, hv, hn⟩ | ⟨_, hg⟩
      · rcases hfull with hv2 | ⟨g, n2, hv2⟩
        · rw [hv2] at hv
          injection hv with _ h2 h3
          simp at hn
          omega
        · rw [hv2] at hv
          injection hv with _ h2 h3
          simp at hn
          omega
      · have := hg b hvb
        omega
    · rcases hG.new b hvb with h1 | h1
      · exact hf b h1
      · omega

set_option maxHeartbeats 8000000 in
set_option maxRecDepth 100000 in
theorem un13 (v : Value) (d s : List UInt8) (base g c M : Nat) (w : World) (hown : Own w base 5 v d) (hfull : Full v) (hbase : base ≤ w.heap.size) (hg : g < w.heap.size) (hne : v.ownBlock ≠ some g)
    (hM : M = (esc s).length) (hc : ∀ (j : Nat) (u : UInt8), (esc s)[j]? = some u → w.cell? ⟨g, 1 + j, none⟩ = some (.int .u8 (u.toNat : Int))) (hcap : M ≤ c) (hs : d.length + s.length ≤ 1048576) :
    Calls Tryd.prog 13 #[v, .slice (some ⟨g, 1, none⟩) M c] w fun e w' => ∃ v', e = .returned v' ∧ Own w' base 5 v' (d ++ s) ∧ Grow w v w' v' ∧ ∀ b, v.ownBlock = some b → w'.heap[b]? = w.heap[b]? := by
  have HM : Hid (M = (esc s).length) := hM
  have HC : Hid (∀ (j : Nat) (u : UInt8), (esc s)[j]? = some u → w.cell? ⟨g, 1 + j, none⟩ = some (.int .u8 (u.toNat : Int))) := hc
  have HG : Hid (g < w.heap.size ∧ v.ownBlock ≠ some g) := ⟨hg, hne⟩
  have hML : M ≤ 6291456 := by have := esc_len s; omega
  have H0 : Hid (UnAt w v base d s 0 w v) := ⟨by simpa using hown, Grow.refl _ _, fun _ _ => rfl, .inl rfl⟩
  have HFU : Hid (Full v ∧ ∀ b, v.ownBlock = some b → b < w.heap.size) := ⟨hfull, hown.lt⟩
  clear hM hc hg hne hown hfull
  go_enter Tryd.func13, Tryd.ntmps13
  go_wp2
  go_loopw [0, 5, 6, 7, 8] (fun dv iv _ _ _ wr => ∃ k I : Nat, k ≤ s.length ∧ I ≤ M ∧ iv = .int .i64 I ∧ Hid (I = (esc (s.take k)).length) ∧ Hid (UnAt w v base d s k wr dv)) (fun _ iv _ _ _ _ => M - (intOf iv).toNat)
  case atStart => exact ⟨0, 0, Nat.zero_le _, Nat.zero_le _, rfl, rfl, H0⟩
  case round =>
    obtain ⟨k, I, hk, hIM, rfl, HI, HU⟩ := hrel
    clear H0
    have hws := HU.out.grow.by_.size
    have HLEN : Hid ((d ++ s.take k).length ≤ 1048576) := by show _ ≤ _; rw [List.length_append, List.length_take]; omega
    by_cases hlt : k < s.length
    · obtain ⟨u, hu⟩ : ∃ u, s[k]? = some u := ⟨s[k], List.getElem?_eq_getElem hlt⟩
      have HK : Hid (s[k]? = some u) := hu
      have HJ : Hid (∀ (j : Nat) (x : UInt8), (esc1 u)[j]? = some x → wr.cell? ⟨g, 1 + (I + j), none⟩ = some (.int .u8 (x.toNat : Int))) := fun j x hj =>
        HU.out.grow.cell HG.out.1 HG.out.2 (HC.out (I + j) x (by rw [HI.out]; exact esc_at hu hj))
      have hnx := esc_next hu
      rw [← HI.out, ← HM.out] at hnx
      obtain ⟨hnx1, hnx2⟩ := hnx
      rw [hnx1] at hnx2
      have HNX : Hid ((esc (s.take (k + 1))).length = I + (esc1 u).length) := hnx1
      have hIlt : (I : Int) < (M : Int) := by have := (esc1_len u).2; omega
      clear hnx1 hu
      by_cases e34 : u = 34
      · have hesc : esc1 u = [92, 34] := by rw [e34]; rfl
        have hc0 : wr.cell? ⟨g, 1 + I, none⟩ = some (.int .u8 92) := HJ.out 0 92 (by rw [hesc]; rfl)
        have hc1 : wr.cell? ⟨g, 1 + (I + 1), none⟩ = some (.int .u8 34) := HJ.out 1 34 (by rw [hesc]; rfl)
        have hI2 : I + 2 ≤ M := by rw [hesc] at hnx2; exact hnx2
        have HI' : Hid (I + 2 = (esc (s.take (k + 1))).length) := by show _ = _; rw [HNX.out, hesc]; rfl
        have HE : Hid (u = 34) := e34
        clear e34 hesc HJ HNX hnx2
        go_wp2_with (at_builtin; refine wpList_append_keep _ rfl (.tmp 31) (.tmp 36) 22 22 rfl base 5 bt _ (d ++ s.take k) rfl (HU.out.own.alloc _) _ rfl [34] (src_one _ Tryd.underlying22 wr.heap.size 1 34 (by simp)) (Nat.le_trans (Nat.add_le_add_right HLEN.out 1) (by decide)) (by simp; omega) ?_; intro v2 w2 hO2 hG2 hK2)
        rw [← HE.out] at hO2 hK2
        have HU' : Hid (UnAt w v base d s (k + 1) w2 v2) := un_next HFU.out.1 HFU.out.2 HU.out HK.out ((Below.refl _ _).alloc (Nat.le_refl _) _) hO2 hG2 hK2
        clear hO2 hG2 hK2 HU
        go_wp2
        go_roundw
        case rel => exact ⟨k + 1, I + 2, by omega, by omega, by go_num, HI', HU'⟩
        case measure => simp [intOf]; omega
      by_cases e92 : u = 92
      · have hesc : esc1 u = [92, 92] := by rw [e92]; rfl
        have hc0 : wr.cell? ⟨g, 1 + I, none⟩ = some (.int .u8 92) := HJ.out 0 92 (by rw [hesc]; rfl)
        have hc1 : wr.cell? ⟨g, 1 + (I + 1), none⟩ = some (.int .u8 92) := HJ.out 1 92 (by rw [hesc]; rfl)
        have hI2 : I + 2 ≤ M := by rw [hesc] at hnx2; exact hnx2
        have HI' : Hid (I + 2 = (esc (s.take (k + 1))).length) := by show _ = _; rw [HNX.out, hesc]; rfl
        have HE : Hid (u = 92) := e92
        clear e92 hesc HJ HNX hnx2
        go_wp2_with (at_builtin; refine wpList_append_keep _ rfl (.tmp 31) (.tmp 36) 22 22 rfl base 5 bt _ (d ++ s.take k) rfl (HU.out.own.alloc _) _ rfl [92] (src_one _ Tryd.underlying22 wr.heap.size 1 92 (by simp)) (Nat.le_trans (Nat.add_le_add_right HLEN.out 1) (by decide)) (by simp; omega) ?_; intro v2 w2 hO2 hG2 hK2)
        rw [← HE.out] at hO2 hK2
        have HU' : Hid (UnAt w v base d s (k + 1) w2 v2) := un_next HFU.out.1 HFU.out.2 HU.out HK.out ((Below.refl _ _).alloc (Nat.le_refl _) _) hO2 hG2 hK2
        clear hO2 hG2 hK2 HU
        go_wp2
        go_roundw
        case rel => exact ⟨k + 1, I + 2, by omega, by omega, by go_num, HI', HU'⟩
        case measure => simp [intOf]; omega
      by_cases e8 : u = 8
      · have hesc : esc1 u = [92, 98] := by rw [e8]; rfl
        have hc0 : wr.cell? ⟨g, 1 + I, none⟩ = some (.int .u8 92) := HJ.out 0 92 (by rw [hesc]; rfl)
        have hc1 : wr.cell? ⟨g, 1 + (I + 1), none⟩ = some (.int .u8 98) := HJ.out 1 98 (by rw [hesc]; rfl)
        have hI2 : I + 2 ≤ M := by rw [hesc] at hnx2; exact hnx2
        have HI' : Hid (I + 2 = (esc (s.take (k + 1))).length) := by show _ = _; rw [HNX.out, hesc]; rfl
        have HE : Hid (u = 8) := e8
        clear e8 hesc HJ HNX hnx2
        go_wp2_with (at_builtin; refine wpList_append_keep _ rfl (.tmp 40) (.tmp 41) 22 22 rfl base 5 bt _ (d ++ s.take k) rfl (HU.out.own.alloc _) _ rfl [8] (src_one _ Tryd.underlying22 wr.heap.size 1 8 (by simp)) (Nat.le_trans (Nat.add_le_add_right HLEN.out 1) (by decide)) (by simp; omega) ?_; intro v2 w2 hO2 hG2 hK2)
        rw [← HE.out] at hO2 hK2
        have HU' : Hid (UnAt w v base d s (k + 1) w2 v2) := un_next HFU.out.1 HFU.out.2 HU.out HK.out ((Below.refl _ _).alloc (Nat.le_refl _) _) hO2 hG2 hK2
        clear hO2 hG2 hK2 HU
        go_wp2
        go_roundw
        case rel => exact ⟨k + 1, I + 2, by omega, by omega, by go_num, HI', HU'⟩
        case measure => simp [intOf]; omega
      by_cases e12 : u = 12
      · have hesc : esc1 u = [92, 102] := by rw [e12]; rfl
        have hc0 : wr.cell? ⟨g, 1 + I, none⟩ = some (.int .u8 92) := HJ.out 0 92 (by rw [hesc]; rfl)
        have hc1 : wr.cell? ⟨g, 1 + (I + 1), none⟩ = some (.int .u8 102) := HJ.out 1 102 (by rw [hesc]; rfl)
        have hI2 : I + 2 ≤ M := by rw [hesc] at hnx2; exact hnx2
        have HI' : Hid (I + 2 = (esc (s.take (k + 1))).length) := by show _ = _; rw [HNX.out, hesc]; rfl
        have HE : Hid (u = 12) := e12
        clear e12 hesc HJ HNX hnx2
        go_wp2_with (at_builtin; refine wpList_append_keep _ rfl (.tmp 45) (.tmp 46) 22 22 rfl base 5 bt _ (d ++ s.take k) rfl (HU.out.own.alloc _) _ rfl [12] (src_one _ Tryd.underlying22 wr.heap.size 1 12 (by simp)) (Nat.le_trans (Nat.add_le_add_right HLEN.out 1) (by decide)) (by simp; omega) ?_; intro v2 w2 hO2 hG2 hK2)
        rw [← HE.out] at hO2 hK2
        have HU' : Hid (UnAt w v base d s (k + 1) w2 v2) := un_next HFU.out.1 HFU.out.2 HU.out HK.out ((Below.refl _ _).alloc (Nat.le_refl _) _) hO2 hG2 hK2
        clear hO2 hG2 hK2 HU
        go_wp2
        go_roundw
        case rel => exact ⟨k + 1, I + 2, by omega, by omega, by go_num, HI', HU'⟩
        case measure => simp [intOf]; omega
      by_cases e10 : u = 10
      · have hesc : esc1 u = [92, 110] := by rw [e10]; rfl
        have hc0 : wr.cell? ⟨g, 1 + I, none⟩ = some (.int .u8 92) := HJ.out 0 92 (by rw [hesc]; rfl)
        have hc1 : wr.cell? ⟨g, 1 + (I + 1), none⟩ = some (.int .u8 110) := HJ.out 1 110 (by rw [hesc]; rfl)
        have hI2 : I + 2 ≤ M := by rw [hesc] at hnx2; exact hnx2
        have HI' : Hid (I + 2 = (esc (s.take (k + 1))).length) := by show _ = _; rw [HNX.out, hesc]; rfl
        have HE : Hid (u = 10) := e10
        clear e10 hesc HJ HNX hnx2
        go_wp2_with (at_builtin; refine wpList_append_keep _ rfl (.tmp 50) (.tmp 51) 22 22 rfl base 5 bt _ (d ++ s.take k) rfl (HU.out.own.alloc _) _ rfl [10] (src_one _ Tryd.underlying22 wr.heap.size 1 10 (by simp)) (Nat.le_trans (Nat.add_le_add_right HLEN.out 1) (by decide)) (by simp; omega) ?_; intro v2 w2 hO2 hG2 hK2)
        rw [← HE.out] at hO2 hK2
        have HU' : Hid (UnAt w v base d s (k + 1) w2 v2) := un_next HFU.out.1 HFU.out.2 HU.out HK.out ((Below.refl _ _).alloc (Nat.le_refl _) _) hO2 hG2 hK2
        clear hO2 hG2 hK2 HU
        go_wp2
        go_roundw
        case rel => exact ⟨k + 1, I + 2, by omega, by omega, by go_num, HI', HU'⟩
        case measure => simp [intOf]; omega
      by_cases e13 : u = 13
      · have hesc : esc1 u = [92, 114] := by rw [e13]; rfl
        have hc0 : wr.cell? ⟨g, 1 + I, none⟩ = some (.int .u8 92) := HJ.out 0 92 (by rw [hesc]; rfl)
        have hc1 : wr.cell? ⟨g, 1 + (I + 1), none⟩ = some (.int .u8 114) := HJ.out 1 114 (by rw [hesc]; rfl)
        have hI2 : I + 2 ≤ M := by rw [hesc] at hnx2; exact hnx2
        have HI' : Hid (I + 2 = (esc (s.take (k + 1))).length) := by show _ = _; rw [HNX.out, hesc]; rfl
        have HE : Hid (u = 13) := e13
        clear e13 hesc HJ HNX hnx2
        go_wp2_with (at_builtin; refine wpList_append_keep _ rfl (.tmp 55) (.tmp 56) 22 22 rfl base 5 bt _ (d ++ s.take k) rfl (HU.out.own.alloc _) _ rfl [13] (src_one _ Tryd.underlying22 wr.heap.size 1 13 (by simp)) (Nat.le_trans (Nat.add_le_add_right HLEN.out 1) (by decide)) (by simp; omega) ?_; intro v2 w2 hO2 hG2 hK2)
        rw [← HE.out] at hO2 hK2
        have HU' : Hid (UnAt w v base d s (k + 1) w2 v2) := un_next HFU.out.1 HFU.out.2 HU.out HK.out ((Below.refl _ _).alloc (Nat.le_refl _) _) hO2 hG2 hK2
        clear hO2 hG2 hK2 HU
        go_wp2
        go_roundw
        case rel => exact ⟨k + 1, I + 2, by omega, by omega, by go_num, HI', HU'⟩
        case measure => simp [intOf]; omega
      by_cases e9 : u = 9
      · have hesc : esc1 u = [92, 116] := by rw [e9]; rfl
        have hc0 : wr.cell? ⟨g, 1 + I, none⟩ = some (.int .u8 92) := HJ.out 0 92 (by rw [hesc]; rfl)
        have hc1 : wr.cell? ⟨g, 1 + (I + 1), none⟩ = some (.int .u8 116) := HJ.out 1 116 (by rw [hesc]; rfl)
        have hI2 : I + 2 ≤ M := by rw [hesc] at hnx2; exact hnx2
        have HI' : Hid (I + 2 = (esc (s.take (k + 1))).length) := by show _ = _; rw [HNX.out, hesc]; rfl
        have HE : Hid (u = 9) := e9
        clear e9 hesc HJ HNX hnx2
        go_wp2_with (at_builtin; refine wpList_append_keep _ rfl (.tmp 60) (.tmp 61) 22 22 rfl base 5 bt _ (d ++ s.take k) rfl (HU.out.own.alloc _) _ rfl [9] (src_one _ Tryd.underlying22 wr.heap.size 1 9 (by simp)) (Nat.le_trans (Nat.add_le_add_right HLEN.out 1) (by decide)) (by simp; omega) ?_; intro v2 w2 hO2 hG2 hK2)
        rw [← HE.out] at hO2 hK2
        have HU' : Hid (UnAt w v base d s (k + 1) w2 v2) := un_next HFU.out.1 HFU.out.2 HU.out HK.out ((Below.refl _ _).alloc (Nat.le_refl _) _) hO2 hG2 hK2
        clear hO2 hG2 hK2 HU
        go_wp2
        go_roundw
        case rel => exact ⟨k + 1, I + 2, by omega, by omega, by go_num, HI', HU'⟩
        case measure => simp [intOf]; omega
      by_cases e32 : u.toNat < 32
      · have hesc : esc1 u = [92, 117, 48, 48, hexd (u.toNat / 16), hexd (u.toNat % 16)] := by unfold esc1; rw [if_neg e34, if_neg e92, if_neg e8, if_neg e12, if_neg e10, if_neg e13, if_neg e9, if_pos e32]
        have hh := hex_of u.toNat e32
        obtain ⟨x, hx⟩ : ∃ x, x = hexd (u.toNat / 16) := ⟨_, rfl⟩
        obtain ⟨y, hy⟩ : ∃ y, y = hexd (u.toNat % 16) := ⟨_, rfl⟩
        rw [← hx, ← hy] at hesc hh
        clear hx hy
        have hc0 : wr.cell? ⟨g, 1 + I, none⟩ = some (.int .u8 92) := HJ.out 0 92 (by rw [hesc]; rfl)
        have hc1 : wr.cell? ⟨g, 1 + (I + 1), none⟩ = some (.int .u8 117) := HJ.out 1 117 (by rw [hesc]; rfl)
        have HL : Hid (∀ j (hj : j < [48, 48, x, y].length), wr.cell? ((⟨g, 1 + (I + 2), none⟩ : Addr).add j) = some (.int .u8 ([48, 48, x, y][j].toNat : Int))) := fun j hj => by
          have := HJ.out (2 + j) ([48, 48, x, y][j]) (by rw [hesc]; show ([92, 117] ++ [48, 48, x, y])[2 + j]? = _; rw [List.getElem?_append_right (by simp)]; simp)
          rw [show 1 + (I + (2 + j)) = 1 + (I + 2) + j by omega] at this
          simpa [Addr.add_lit] using this
        have hcv := run_convert_bytes_back (P := Tryd.prog) wr 22 9 5 ⟨g, 1 + (I + 2), none⟩ (c - (I + 2)) [48, 48, x, y] Tryd.underlying22 Tryd.underlying5 Tryd.underlying9 HL.out
        have hI6 : I + 6 ≤ M := by rw [hesc] at hnx2; exact hnx2
        have HI' : Hid (I + 6 = (esc (s.take (k + 1))).length) := by show _ = _; rw [HNX.out, hesc]; rfl
        have h15 := parse15 ⟨[48, 48, x, y].toArray⟩ (u.toNat : Int) wr rfl hh.1 hh.2.1 hh.2.2
        have hub : (u.toNat : Int) < 32 := by omega
        obtain ⟨T, hT⟩ : ∃ T, T = (⟨[48, 48, x, y].toArray⟩ : ByteArray) := ⟨_, rfl⟩
        rw [← hT] at hcv h15
        have H15 : Hid (Calls Tryd.prog 15 #[.string T, .int .i64 16, .int .i64 8] wr fun e w' => e = .returned (.tuple #[.int .u64 (u.toNat : Int), .nilIface]) ∧ w' = Lib.bytesWorld wr 5 T) := h15
        clear hT h15 hh hesc HJ HNX hnx2 HL e32 e34 e92 e8 e12 e10 e13 e9
        simp only [List.length_cons, List.length_nil, Nat.zero_add, Nat.reduceAdd] at hcv
        go_wp2_with fail
        refine H15.out.mono ?_
        rintro e w3 ⟨rfl, hw3⟩
        have hb3 : Below wr.heap.size wr w3 := by rw [hw3]; exact Lib.bytesWorld_below wr 5 T
        have hs3 := hb3.size
        have HO3 : Hid (Own w3 base 5 u0 (d ++ s.take k)) := HU.out.own.below hb3
        have HB3 : Hid (Below wr.heap.size wr w3) := hb3
        clear hw3 hb3 hcv H15
        go_wp2_with (at_builtin; refine wpList_append_keep _ rfl (.tmp 76) (.tmp 79) 22 22 rfl base 5 bt _ (d ++ s.take k) rfl (HO3.out.alloc _) _ rfl [u] (src_one _ Tryd.underlying22 w3.heap.size 1 u (by simp)) (Nat.le_trans (Nat.add_le_add_right HLEN.out 1) (by decide)) (by simp; omega) ?_; intro v2 w2 hO2 hG2 hK2)
        have HU' : Hid (UnAt w v base d s (k + 1) w2 v2) := un_next HFU.out.1 HFU.out.2 HU.out HK.out (HB3.out.alloc hs3 _) hO2 hG2 hK2
        clear hO2 hG2 hK2 HU
        go_wp2
        go_roundw
        case rel => exact ⟨k + 1, I + 6, by omega, by omega, by go_num, HI', HU'⟩
        case measure => simp [intOf]; omega
      · have hesc : esc1 u = [u] := by unfold esc1; rw [if_neg e34, if_neg e92, if_neg e8, if_neg e12, if_neg e10, if_neg e13, if_neg e9, if_neg e32]
        have hc0 : wr.cell? ⟨g, 1 + I, none⟩ = some (.int .u8 (u.toNat : Int)) := HJ.out 0 u (by rw [hesc]; rfl)
        have hd92 : ((u.toNat : Int) != 92) = true := by have := beq_f (k := 92) e92; simp only [bne, Bool.not_eq_true']; exact this
        have hI1 : I + 1 ≤ M := by rw [hesc] at hnx2; exact hnx2
        have HI' : Hid (I + 1 = (esc (s.take (k + 1))).length) := by show _ = _; rw [HNX.out, hesc]; rfl
        clear hesc HJ HNX hnx2 e32 e34 e92 e8 e12 e10 e13 e9
        go_wp2_with (at_builtin; refine wpList_append_keep _ rfl (.tmp 21) (.tmp 23) 22 22 rfl base 5 bt _ (d ++ s.take k) rfl (HU.out.own.alloc _) _ rfl [u] (src_one _ Tryd.underlying22 wr.heap.size 1 u (by simp)) (Nat.le_trans (Nat.add_le_add_right HLEN.out 1) (by decide)) (by simp; omega) ?_; intro v2 w2 hO2 hG2 hK2)
        have HU' : Hid (UnAt w v base d s (k + 1) w2 v2) := un_next HFU.out.1 HFU.out.2 HU.out HK.out ((Below.refl _ _).alloc (Nat.le_refl _) _) hO2 hG2 hK2
        clear hO2 hG2 hK2 HU
        go_wp2
        go_roundw
        case rel => exact ⟨k + 1, I + 1, by omega, by omega, by go_num, HI', HU'⟩
        case measure => simp [intOf]; omega
    · have hkl : k = s.length := by omega
      have hIe : I = M := by rw [HI.out, HM.out, hkl, List.take_length]
      have HF : Hid (Own wr base 5 u0 (d ++ s)) := by
        have := HU.out.own
        rw [hkl, List.take_length] at this
        exact this
      have hIM2 : (M : Int) ≤ (I : Int) := by omega
      clear hkl hIe
      go_wp2
      go_ret
      exact ⟨_, rfl, HF.out, HU.out.grow, HU.out.same⟩

theorem un8 (v : Value) (d s : List UInt8) (base g c M : Nat) (w : World) (hown : Own w base 5 v d) (hfull : Full v) (hbase : base ≤ w.heap.size) (hg : g < w.heap.size) (hne : v.ownBlock ≠ some g)
    (hM : M = (esc s).length) (hc : ∀ (j : Nat) (u : UInt8), (esc s)[j]? = some u → w.cell? ⟨g, 1 + j, none⟩ = some (.int .u8 (u.toNat : Int))) (hcap : M ≤ c) (hs : d.length + s.length ≤ 1048576) :
    Calls Tryd.prog 8 #[v, .slice (some ⟨g, 1, none⟩) M c] w fun e w' => ∃ v', e = .returned v' ∧ Own w' base 5 v' (d ++ s) ∧ Grow w v w' v' ∧ ∀ b, v.ownBlock = some b → w'.heap[b]? = w.heap[b]? := by
  have H13 := un13 v d s base g c M w hown hfull hbase hg hne hM hc hcap hs
  clear hown hfull hbase hg hne hM hc hcap hs
  go_enter Tryd.func8, Tryd.ntmps8
  go_wp2_with (go_at_call 13; refine H13.mono ?_; rintro e w' ⟨v', rfl, h1, h2, h3⟩)
  go_ret
  exact ⟨_, rfl, h1, h2, h3⟩
end Go.Proofs.Qxb6606064aDoor
