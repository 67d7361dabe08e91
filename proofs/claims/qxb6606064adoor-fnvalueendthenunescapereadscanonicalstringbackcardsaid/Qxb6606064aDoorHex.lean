/-
  strconv.ParseUint at base 16 and 8 bits, at four lowercase hex digits whose number is a byte.
-/
import Derived.Test.Qxb6606064aDoorEsc
import Derived.Lib.ConvBytes
import Derived.Lib.AtoiAllMem
import Derived.Laws.Strings3
import Derived.Laws.Closers25
import Derived.Laws.Closers25b
import Derived.BigCall
import Derived.BigGuard
namespace Go.Proofs.Qxb6606064aDoor
open Go.RowKit

/-- A lowercase hex digit's number. -/
def dg (c : UInt8) : Int := if c.toNat ≤ 57 then (c.toNat : Int) - 48 else (c.toNat : Int) - 87
def hv (l : List UInt8) : Int := l.foldl (fun a c => a * 16 + dg c) 0
theorem hv_snoc (l : List UInt8) (c : UInt8) : hv (l ++ [c]) = hv l * 16 + dg c := by simp [hv]
def isHex (c : UInt8) : Prop := (48 ≤ c.toNat ∧ c.toNat ≤ 57) ∨ (97 ≤ c.toNat ∧ c.toNat ≤ 102)

set_option maxHeartbeats 400000 in
theorem lower20 (c : Int) (w : World) (h : 97 ≤ c ∧ c ≤ 102) : Calls Tryd.prog 20 #[.int .u8 c] w fun e w' => e = .returned (.int .u8 c) ∧ w' = w := by
  have hc : c = 97 ∨ c = 98 ∨ c = 99 ∨ c = 100 ∨ c = 101 ∨ c = 102 := by omega
  rcases hc with rfl | rfl | rfl | rfl | rfl | rfl
  all_goals
    go_enter Tryd.func20, Tryd.ntmps20
    go_wp2
    go_ret
    exact ⟨by kernel_rfl, rfl⟩

set_option maxHeartbeats 4000000 in
set_option maxRecDepth 100000 in
theorem parse17 (t : ByteArray) (N : Int) (w : World) (hsz : t.size = 4) (hx : ∀ c ∈ t.data.toList, isHex c) (hv1 : ∀ k, k ≤ 4 → 0 ≤ hv (t.data.toList.take k) ∧ hv (t.data.toList.take k) ≤ 255) (hN : hv t.data.toList = N) :
    Calls Tryd.prog 17 #[.string t, .int .i64 16, .int .i64 8] w fun e w' => e = .returned (.tuple #[.int .u64 N, .nilIface]) ∧ w' = Lib.bytesWorld w 5 t := by
  have hemp : t.toList.isEmpty = false := by
    rw [← decide_eq_emptyBytes]
    exact decide_eq_false (fun h => by rw [h] at hsz; cases hsz)
  have hcv := Lib.run_convert_string_bytes (P := Tryd.prog) w 9 22 5 t (u := .string) Tryd.underlying9 Tryd.underlying22 Tryd.underlying5
  have hB : ∀ j, j < t.size → (Lib.bytesWorld w 5 t).cell? ⟨w.heap.size, j, none⟩ = some (.int .u8 (t.data.toList.getD j 0).toNat) := fun j hj => Lib.bytesWorld_cell w 5 t j hj
  obtain ⟨W1, hW1⟩ : ∃ W1, W1 = Lib.bytesWorld w 5 t := ⟨_, rfl⟩
  rw [← hW1] at hcv hB ⊢
  clear hW1
  rw [hsz] at hcv hB
  obtain ⟨bs, hL⟩ : ∃ bs, bs = t.data.toList := ⟨_, rfl⟩
  have hLn : bs.length = 4 := by rw [hL, ← Lib.size_eq, hsz]
  rw [← hL] at hB hx hv1 hN
  have HB : Hid (∀ j, j < 4 → W1.cell? ⟨w.heap.size, j, none⟩ = some (.int .u8 (bs.getD j 0).toNat)) := hB
  have HX : Hid (∀ c ∈ bs, isHex c) := hx
  have HV : Hid (∀ k, k ≤ 4 → 0 ≤ hv (bs.take k) ∧ hv (bs.take k) ≤ 255) := hv1
  have HN : Hid (hv bs = N) := hN
  have HL : Hid (bs.length = 4) := hLn
  clear hL hB hx hv1 hN hLn
  go_enter Tryd.func17, Tryd.ntmps17
  go_wp2
  go_loop [12, 13, 101] (fun vu vn vi => ∃ (k : Nat) (a : Int), vu = .bool false ∧ vn = .int .u64 a ∧ vi = .int .i64 k ∧ k ≤ 4 ∧ Hid (a = hv (bs.take k))) (fun _ _ vi => 4 - (intOf vi).toNat)
  case atStart => exact ⟨0, 0, rfl, rfl, rfl, by omega, rfl⟩
  case round =>
    obtain ⟨k, a, rfl, rfl, rfl, hk, HA⟩ := hrel
    have a0 : 0 ≤ a := by rw [HA.out]; exact (HV.out k hk).1
    have a1 : a ≤ 255 := by rw [HA.out]; exact (HV.out k hk).2
    by_cases hkn : k < 4
    · have hkl : k < bs.length := by rw [HL.out]; exact hkn
      have hc := HB.out k hkn
      have hget : bs.getD k 0 = bs[k] := by simp [List.getD, List.getElem?_eq_getElem hkl]
      rw [hget] at hc
      have hh := HX.out bs[k] (List.getElem_mem _)
      have hnx : hv (bs.take (k + 1)) = a * 16 + dg bs[k] := by rw [take_snoc bs k hkl, hv_snoc, HA.out]
      have hb1 := (HV.out (k + 1) (by omega)).2
      rw [hnx] at hb1
      generalize bs[k] = c at hc hh hnx hb1
      have HNX : Hid (hv (bs.take (k + 1)) = a * 16 + dg c) := hnx
      clear hget hnx hkl HA
      rcases hh with ⟨h1, h2⟩ | ⟨h1, h2⟩
      · have h1' : (48 : Int) ≤ (c.toNat : Int) := by omega
        have h2' : (c.toNat : Int) ≤ 57 := by omega
        have hdg : dg c = (c.toNat : Int) - 48 := by unfold dg; rw [if_pos h2]
        rw [hdg] at hb1 HNX
        clear h1 h2 hdg
        go_wp2
        refine ⟨⟨k + 1, a * 16 + ((c.toNat : Int) - 48), rfl, rfl, by go_num, by omega, HNX.out.symm⟩, by simp [intOf]; omega⟩
      · have h1' : (97 : Int) ≤ (c.toNat : Int) := by omega
        have h2' : (c.toNat : Int) ≤ 102 := by omega
        have hdg : dg c = (c.toNat : Int) - 97 + 10 := by unfold dg; rw [if_neg (by omega)]; omega
        rw [hdg] at hb1 HNX
        clear h1 h2 hdg
        go_wp2_with (go_at_call 20; refine (lower20 _ _ ⟨h1', h2'⟩).mono ?_; rintro e w' ⟨rfl, hw⟩; rw [hw]; clear hw)
        refine ⟨⟨k + 1, a * 16 + ((c.toNat : Int) - 97 + 10), rfl, rfl, by go_num, by omega, HNX.out.symm⟩, by simp [intOf]; omega⟩
    · have hk4 : k = 4 := by omega
      have HF : Hid (a = N) := by
        show _ = _
        rw [HA.out, hk4, ← HN.out, List.take_of_length_le (by rw [HL.out]; exact Nat.le_refl 4)]
      clear hk4 HA
      go_wp2
      go_ret2
      exact ⟨by rw [HF.out]; rfl, rfl⟩

set_option maxHeartbeats 1000000 in
theorem parse15 (t : ByteArray) (N : Int) (w : World) (hsz : t.size = 4) (hx : ∀ c ∈ t.data.toList, isHex c) (hv1 : ∀ k, k ≤ 4 → 0 ≤ hv (t.data.toList.take k) ∧ hv (t.data.toList.take k) ≤ 255) (hN : hv t.data.toList = N) :
    Calls Tryd.prog 15 #[.string t, .int .i64 16, .int .i64 8] w fun e w' => e = .returned (.tuple #[.int .u64 N, .nilIface]) ∧ w' = Lib.bytesWorld w 5 t := by
  have H17 := parse17 t N w hsz hx hv1 hN
  clear hx hv1 hN hsz
  go_enter Tryd.func15, Tryd.ntmps15
  go_wp2_with (go_at_call 17; refine H17.mono ?_; rintro e w' ⟨rfl, hw⟩; rw [hw]; clear hw)
  go_ret2
  exact ⟨rfl, rfl⟩
end Go.Proofs.Qxb6606064aDoor
