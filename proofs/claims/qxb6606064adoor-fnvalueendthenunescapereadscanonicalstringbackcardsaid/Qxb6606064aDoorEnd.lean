/-
  The walks of stringEnd and valueEnd at a canonical string.
-/
import Derived.Test.Qxb6606064aDoorPlain
namespace Go.Proofs.Qxb6606064aDoor
open Go.RowKit

theorem index19n (g o n c : Nat) (l : List UInt8) (q : Int) (w : World) (hn : l.length = n) (hq : Lib.indexByte l 34 = q) (hc : ∀ (j : Nat) (u : UInt8), l[j]? = some u → w.cell? ⟨g, o + j, none⟩ = some (.int .u8 (u.toNat : Int))) :
    Calls Tryd.prog 19 #[.slice (some ⟨g, o, none⟩) n c, .int .u8 34] w fun e w' => e = .returned (.int .i64 q) ∧ w' = w := by
  subst hn
  subst hq
  exact index19 g o c l w hc

set_option maxHeartbeats 400000 in
theorem end16 (s tail : List UInt8) (g cap : Nat) (w : World) (hc : ∀ (j : Nat) (u : UInt8), (dat s tail)[j]? = some u → w.cell? ⟨g, j, none⟩ = some (.int .u8 (u.toNat : Int)))
    (hcap : (dat s tail).length ≤ cap) (hs : (dat s tail).length ≤ 8388608) :
    Calls Tryd.prog 16 #[.slice (some ⟨g, 0, none⟩) (dat s tail).length cap, .int .i64 0] w fun e w' => e = .returned (.int .i64 (((esc s).length + 2 : Nat) : Int)) ∧ w' = w := by
  have HC : Hid (∀ (j : Nat) (u : UInt8), (dat s tail)[j]? = some u → w.cell? ⟨g, j, none⟩ = some (.int .u8 (u.toNat : Int))) := hc
  clear hc
  obtain ⟨N, hN⟩ : ∃ N, N = (dat s tail).length := ⟨_, rfl⟩
  have hN2 : N = (esc s).length + 2 + tail.length := by rw [hN, dat_len]
  have HN : Hid (N = (dat s tail).length) := hN
  rw [← hN] at hcap hs ⊢
  clear hN
  obtain ⟨M, hM⟩ : ∃ M, M = (esc s).length := ⟨_, rfl⟩
  have HM : Hid (M = (esc s).length) := hM
  rw [← hM] at hN2 ⊢
  have hMN : M + 2 ≤ N := by omega
  clear hM hN2
  go_enter Tryd.func16, Tryd.ntmps16
  go_wp2
  go_loop [1, 4, 5, 6] (fun iv _ _ _ => ∃ k I : Nat, k ≤ s.length ∧ iv = .int .i64 I ∧ I ≤ M + 1 ∧ Hid (I = 1 + (esc (s.take k)).length)) (fun iv _ _ _ => M + 2 - (intOf iv).toNat)
  case atStart => exact ⟨0, 1, Nat.zero_le _, rfl, by omega, by show _ = _; simp [esc_nil]⟩
  case round =>
    obtain ⟨k, I, hk, rfl, hIM, HI⟩ := hrel
    obtain ⟨W, hF⟩ := found s tail k
    obtain ⟨⟨X, hX⟩, hnq, hF3⟩ := hF
    obtain ⟨q, hq⟩ : ∃ q, q = W.length := ⟨_, rfl⟩
    rw [← hq] at hF3
    have HQ : Hid (q = W.length) := hq
    have HD : Hid ((dat s tail).drop I = W ++ 34 :: X) := by show _ = _; rw [HI.out, dat_drop, hX]
    have hix : Lib.indexByte ((dat s tail).drop I) 34 = (q : Int) := by rw [HD.out, idx_pre W X hnq, hq]
    have HIX : Hid (Lib.indexByte ((dat s tail).drop I) 34 = (q : Int)) := hix
    have hIN : I < N := by omega
    have hqN : I + q < N := by
      have h1 := congrArg List.length HD.out
      rw [List.length_drop, ← HN.out] at h1
      simp at h1
      omega
    have HL : Hid (((dat s tail).drop I).length = N - I) := by show _ = _; rw [List.length_drop, ← HN.out]
    have HCI : Hid (∀ (j : Nat) (u : UInt8), ((dat s tail).drop I)[j]? = some u → w.cell? ⟨g, I + j, none⟩ = some (.int .u8 (u.toNat : Int))) := fun j u hj => HC.out (I + j) u (by rw [List.getElem?_drop] at hj; exact hj)
    have HW : Hid (∀ (j : Nat) (u : UInt8), W.reverse[j]? = some u → w.cell? ⟨g, I + q - 1 - j, none⟩ = some (.int .u8 (u.toNat : Int))) := fun j u hj => by
      have hjl : j < W.length := by have := (List.getElem?_eq_some_iff.1 hj).1; simpa using this
      have h2 := HCI.out (W.length - 1 - j) u (by rw [HD.out, List.getElem?_append_left (by omega)]; rw [List.getElem?_reverse hjl] at hj; exact hj)
      rw [show I + q - 1 - j = I + (W.length - 1 - j) by omega]
      exact h2
    have HF : Hid ((tw W.reverse % 2 = 0 ∧ I + q = M + 1) ∨ (tw W.reverse % 2 = 1 ∧ ∃ k', k' ≤ s.length ∧ I + q + 1 = 1 + (esc (s.take k')).length ∧ I + q + 1 ≤ M + 1)) := by
      have h0 := HM.out
      have h1 := HI.out
      rcases hF3 with ⟨h2, h3⟩ | ⟨h2, k', h3, h4, h5⟩
      · exact .inl ⟨h2, by omega⟩
      · have h6 : (esc (s.take k')).length ≤ (esc s).length := by
          conv => rhs; rw [← List.take_append_drop k' s, esc_append, List.length_append]
          omega
        exact .inr ⟨h2, k', h4, by omega, by omega⟩
    have htq : tw W.reverse ≤ q := by rw [HQ.out]; simpa using tw_le W.reverse
    clear hix hX hnq hF3 hq
    go_wp2_with fail
    refine (index19n g I (N - I) (cap - I) _ _ w HL.out HIX.out HCI.out).mono ?_
    rintro e w' ⟨rfl, hw⟩
    rw [hw]
    clear hw
    go_wp2
    go_loop [6] (fun ev => ∃ e : Nat, ev = .int .i64 e ∧ e ≤ q ∧ Hid (e ≤ tw W.reverse)) (fun ev => q - (intOf ev).toNat)
    case atStart => exact ⟨0, rfl, Nat.zero_le _, Nat.zero_le _⟩
    case round =>
      obtain ⟨e, rfl, heq, HE⟩ := hrel
      by_cases hlt : e < q
      · obtain ⟨u, hu⟩ : ∃ u, W.reverse[e]? = some u := ⟨W.reverse[e]'(by simp; have := HQ.out; omega), List.getElem?_eq_getElem _⟩
        have hcu : w.cell? ⟨g, I + q - 1 - e, none⟩ = some (.int .u8 (u.toNat : Int)) := HW.out e u hu
        by_cases hb : u = 92
        · have hd : ((u.toNat : Int) == 92) = true := by rw [hb]; rfl
          have HE' : Hid (e + 1 ≤ tw W.reverse) := tw_hit _ _ HE.out (by rw [hu, hb])
          clear hb hu
          go_wp2
          go_round
          case rel => exact ⟨e + 1, by go_num, by omega, HE'⟩
          case measure => simp [intOf]; omega
        · have hd : ((u.toNat : Int) == 92) = false := beq_f (k := 92) hb
          have HT : Hid (e = tw W.reverse) := tw_miss _ _ HE.out (by rw [hu]; intro h; exact hb (Option.some.inj h))
          clear hb hu
          rcases HF.out with ⟨h2, h3⟩ | ⟨h2, k', h3, h4, h5⟩
          · have hm : ((e : Int) % 2 == 0) = true := by have := HT.out; simp; omega
            have h3' : (I : Int) + q + 1 = M + 2 := by omega
            have H3 : Hid ((I : Int) + q + 1 = M + 2) := h3'
            clear h2 h3 h3'
            go_wp2
            go_ret
            exact ⟨by have := H3.out; go_num, rfl⟩
          · have hm : ((e : Int) % 2 == 0) = false := by have := HT.out; simp; omega
            have HK : Hid (I + q + 1 = 1 + (esc (s.take k')).length) := h4
            clear h2 h4
            go_wp2
            go_round
            case rel => exact ⟨k', I + q + 1, h3, by go_num, h5, HK⟩
            case measure => simp [intOf]; omega
      · have HT : Hid (e = tw W.reverse) := by have := HE.out; show _ = _; omega
        clear htq
        rcases HF.out with ⟨h2, h3⟩ | ⟨h2, k', h3, h4, h5⟩
        · have hm : ((e : Int) % 2 == 0) = true := by have := HT.out; simp; omega
          have h3' : (I : Int) + q + 1 = M + 2 := by omega
          have H3 : Hid ((I : Int) + q + 1 = M + 2) := h3'
          clear h2 h3 h3'
          go_wp2
          go_ret
          exact ⟨by have := H3.out; go_num, rfl⟩
        · have hm : ((e : Int) % 2 == 0) = false := by have := HT.out; simp; omega
          have HK : Hid (I + q + 1 = 1 + (esc (s.take k')).length) := h4
          clear h2 h4
          go_wp2
          go_round
          case rel => exact ⟨k', I + q + 1, h3, by go_num, h5, HK⟩
          case measure => simp [intOf]; omega

set_option maxHeartbeats 1000000 in
theorem end14 (s tail : List UInt8) (g cap : Nat) (w : World) (hc : ∀ (j : Nat) (u : UInt8), (dat s tail)[j]? = some u → w.cell? ⟨g, j, none⟩ = some (.int .u8 (u.toNat : Int)))
    (hcap : (dat s tail).length ≤ cap) (hs : (dat s tail).length ≤ 8388608) :
    Calls Tryd.prog 14 #[.slice (some ⟨g, 0, none⟩) (dat s tail).length cap, .int .i64 0] w fun e w' => e = .returned (.int .i64 (((esc s).length + 2 : Nat) : Int)) ∧ w' = w := by
  have h16 := end16 s tail g cap w hc hcap hs
  have hc0 : w.cell? ⟨g, 0, none⟩ = some (.int .u8 34) := hc 0 34 (by simp [dat])
  have hlen : 0 < (dat s tail).length := by simp [dat]
  obtain ⟨N, hN⟩ : ∃ N, N = (dat s tail).length := ⟨_, rfl⟩
  rw [← hN] at hcap hs hlen h16 ⊢
  have H16 : Hid (Calls Tryd.prog 16 #[.slice (some ⟨g, 0, none⟩) N cap, .int .i64 0] w fun e w' => e = .returned (.int .i64 (((esc s).length + 2 : Nat) : Int)) ∧ w' = w) := h16
  have hne : ((0 : Int) == (N : Int)) = false := by simp; omega
  obtain ⟨M, hM⟩ : ∃ M, M = (esc s).length := ⟨_, rfl⟩
  rw [← hM] at H16 ⊢
  clear h16 hc hN hM
  go_enter Tryd.func14, Tryd.ntmps14
  go_wp2_with (go_at_call 16; refine H16.out.mono ?_; rintro e w' ⟨rfl, hw⟩; rw [hw]; clear hw)
  go_ret
  exact ⟨rfl, rfl⟩

theorem end11 (s tail : List UInt8) (g cap : Nat) (w : World) (hc : ∀ (j : Nat) (u : UInt8), (dat s tail)[j]? = some u → w.cell? ⟨g, j, none⟩ = some (.int .u8 (u.toNat : Int)))
    (hcap : (dat s tail).length ≤ cap) (hs : (dat s tail).length ≤ 8388608) :
    Calls Tryd.prog 11 #[.slice (some ⟨g, 0, none⟩) (dat s tail).length cap, .int .i64 0] w fun e w' => e = .returned (.int .i64 (((esc s).length + 2 : Nat) : Int)) ∧ w' = w := by
  have H14 : Hid (Calls Tryd.prog 14 #[.slice (some ⟨g, 0, none⟩) (dat s tail).length cap, .int .i64 0] w fun e w' => e = .returned (.int .i64 (((esc s).length + 2 : Nat) : Int)) ∧ w' = w) := end14 s tail g cap w hc hcap hs
  clear hc
  obtain ⟨N, hN⟩ : ∃ N, N = (dat s tail).length := ⟨_, rfl⟩
  obtain ⟨M, hM⟩ : ∃ M, M = (esc s).length := ⟨_, rfl⟩
  rw [← hN, ← hM] at H14 ⊢
  clear hN hM hcap hs
  go_enter Tryd.func11, Tryd.ntmps11
  go_wp2_with (go_at_call 14; refine H14.out.mono ?_; rintro e w' ⟨rfl, hw⟩; rw [hw]; clear hw)
  go_ret
  exact ⟨rfl, rfl⟩
end Go.Proofs.Qxb6606064aDoor
