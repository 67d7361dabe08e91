/-
  The walk of zzOpModel, the automaton.
-/
import Derived.Test.Qxb6605907aPlain
namespace Go.Proofs.Qxb6605907a
open Go.RowKit

/-- Behind k bytes: the state, the variable's two ends, whether it is a write. -/
def St (l : List UInt8) (k st vs ve : Nat) (wb : Bool) : Prop :=
  (st = 0 ∧ k = 0 ∧ vs = 0 ∧ ve = 0 ∧ wb = false) ∨
  (st = 1 ∧ k = 1 ∧ vs = 0 ∧ ve = 0 ∧ l[0]? = some (if wb then 119 else 114)) ∨
  (st = 2 ∧ k = 2 ∧ vs = 0 ∧ ve = 0 ∧ Pre l wb) ∨
  (st = 3 ∧ 3 ≤ k ∧ vs = 2 ∧ ve = 0 ∧ Pre l wb ∧ (∃ c, l[2]? = some c ∧ letB c = true) ∧ ((l.drop 2).take (k - 2)).all nameB = true) ∨
  (st = 4 ∧ k = ve + 1 ∧ vs = 2 ∧ Var l wb ve) ∨
  (st = 5 ∧ ve + 1 < k ∧ vs = 2 ∧ Var l wb ve ∧ ((l.drop (ve + 1)).take (k - (ve + 1))).all valB = true)

/-- What the model hands back. -/
def GivesM (l : List UInt8) (e : Ending) : Prop :=
  ∃ (wb : Bool) (a b : ByteArray), e = .returned (.tuple #[.agg #[.bool wb, .string a, .string b], .bool (okL l)]) ∧ (okL l = true → parseL l = (kindN wb, a.data.toList, b.data.toList, true))

theorem gives_no {l : List UInt8} (h : okL l = false) : GivesM l (.returned (.tuple #[.agg #[.bool false, .string ⟨#[]⟩, .string ⟨#[]⟩], .bool false])) :=
  ⟨false, ⟨#[]⟩, ⟨#[]⟩, by rw [h], fun e => by rw [h] at e; cases e⟩

theorem all_next' {p : UInt8 → Bool} {l : List UInt8} {f k : Nat} {x : UInt8} (hf : f ≤ k) (hx : l[k]? = some x) (h : ((l.drop f).take (k - f)).all p = true) (hp : p x = true) : ((l.drop f).take (k + 1 - f)).all p = true := by
  have hx' : (l.drop f)[k - f]? = some x := by
    rw [List.getElem?_drop]
    have : f + (k - f) = k := by omega
    rw [this]; exact hx
  obtain ⟨hl, he⟩ := List.getElem?_eq_some_iff.1 hx'
  have e : k + 1 - f = (k - f) + 1 := by omega
  rw [e, List.take_succ_eq_append_getElem hl, List.all_append, h, he]
  simp [hp]
theorem all_next {p : UInt8 → Bool} {l : List UInt8} {k : Nat} {x : UInt8} (hf : 3 ≤ k) (hx : l[k]? = some x) (h : ((l.drop 2).take (k - 2)).all p = true) (hp : p x = true) : ((l.drop 2).take (k + 1 - 2)).all p = true :=
  all_next' (by omega) hx h hp

set_option maxHeartbeats 4000000 in
theorem model7 (s : ByteArray) (w : World) (hs : s.size ≤ 1048576) :
    Calls Try.prog 7 #[.string s] w fun e w' => GivesM s.data.toList e ∧ Below w.heap.size w w' := by
  go_enter Try.func7, Try.ntmps7
  go_wp2
  go_loopw [3, 5, 6, 7, 8, 9] (fun _ sv av bv iv _ wr => ∃ (k st vs ve : Nat) (wb : Bool), k ≤ s.size ∧ iv = .int .i64 k ∧ sv = .int .i64 st ∧ av = .int .i64 vs ∧ bv = .int .i64 ve ∧ Hid (St s.data.toList k st vs ve wb) ∧ wr = (w.alloc (.cells #[.bool false, .string ⟨#[]⟩, .string ⟨#[]⟩] 29)).alloc (.cells #[.bool wb, .string ⟨#[]⟩, .string ⟨#[]⟩] 29)) (fun _ _ _ _ iv _ _ => s.size - (intOf iv).toNat)
  case atStart => exact ⟨0, 0, 0, 0, false, Nat.zero_le _, rfl, rfl, rfl, rfl, .inl ⟨rfl, rfl, rfl, rfl, rfl⟩, rfl⟩
  case round =>
    obtain ⟨k, st, vs, ve, wb, hk, rfl, rfl, rfl, rfl, HS, rfl⟩ := hrel
    rcases HS.out with ⟨rfl, rfl, rfl, rfl, rfl⟩ | ⟨rfl, rfl, rfl, rfl, h0⟩ | ⟨rfl, rfl, rfl, rfl, hp⟩ | ⟨rfl, h3, rfl, rfl, hp, hf, hn⟩ | ⟨rfl, rfl, rfl, hv⟩ | ⟨rfl, h5, rfl, hv, ha⟩
    · clear HS
      by_cases hlt : 0 < s.size
      · obtain ⟨x, hx⟩ : ∃ x, s[0] = x := ⟨_, rfl⟩
        have hx' := Lib.data_getElem? s 0 hlt
        rw [hx] at hx'
        have hlt' : (0 : Int) < (s.size : Int) := by omega
        by_cases h119 : x = 119
        · subst h119
          have HS' : Hid (St s.data.toList 1 1 0 0 true) := .inr (.inl ⟨rfl, rfl, rfl, rfl, hx'⟩)
          clear hx'
          go_wp2_with (fail)
          go_roundw
          case rel => exact ⟨1, 1, 0, 0, true, by omega, by go_num, by go_num, by go_num, by go_num, HS', rfl⟩
          case measure => simp [intOf]; omega
        · have e119 : ((x.toNat : Int) == 119) = false := by
            simp; intro h; exact h119 (UInt8.toNat_inj.1 (by simpa using (by omega : x.toNat = 119)))
          by_cases h114 : x = 114
          · subst h114
            have HS' : Hid (St s.data.toList 1 1 0 0 false) := .inr (.inl ⟨rfl, rfl, rfl, rfl, hx'⟩)
            clear hx' h119 e119
            go_wp2_with (fail)
            go_roundw
            case rel => exact ⟨1, 1, 0, 0, false, by omega, by go_num, by go_num, by go_num, by go_num, HS', rfl⟩
            case measure => simp [intOf]; omega
          · have e114 : ((x.toNat : Int) != 114) = true := by
              simp; intro h; exact h114 (UInt8.toNat_inj.1 (by simpa using (by omega : x.toNat = 114)))
            have HR : Hid (okL s.data.toList = false) := rej0 (fun y hy => by rw [hx'] at hy; rw [← Option.some.inj hy]; exact ⟨h119, h114⟩)
            clear hx' h119 h114
            go_wp2_with (fail)
            go_returns
            refine ⟨gives_no HR.out, ?_⟩
            exact ((Below.refl _ _).alloc (Nat.le_refl _) _).alloc (by simp) _
      · have HR : Hid (okL s.data.toList = false) := rej0 (fun y hy => by have := (List.getElem?_eq_some_iff.1 hy).1; rw [← Lib.size_eq] at this; omega)
        have hsz : s.size = 0 := by omega
        clear hlt
        go_wp2_with (fail)
        go_returns
        refine ⟨gives_no HR.out, ?_⟩
        exact ((Below.refl _ _).alloc (Nat.le_refl _) _).alloc (by simp) _
    · clear HS
      by_cases hlt : 1 < s.size
      · obtain ⟨x, hx⟩ : ∃ x, s[1] = x := ⟨_, rfl⟩
        have hx' := Lib.data_getElem? s 1 hlt
        rw [hx] at hx'
        have hlt' : (1 : Int) < (s.size : Int) := by omega
        by_cases h40 : x = 40
        · subst h40
          have HS' : Hid (St s.data.toList 2 2 0 0 wb) := .inr (.inr (.inl ⟨rfl, rfl, rfl, rfl, h0, hx'⟩))
          clear hx' h0
          go_wp2_with (fail)
          go_roundw
          case rel => exact ⟨2, 2, 0, 0, wb, by omega, by go_num, by go_num, by go_num, by go_num, HS', rfl⟩
          case measure => simp [intOf]; omega
        · have e40 : ((x.toNat : Int) != 40) = true := by
            simp; intro h; exact h40 (UInt8.toNat_inj.1 (by simpa using (by omega : x.toNat = 40)))
          have HR : Hid (okL s.data.toList = false) := rej1 (fun y hy => by rw [hx'] at hy; rw [← Option.some.inj hy]; exact h40)
          clear hx' h40 h0
          go_wp2_with (fail)
          go_returns
          refine ⟨gives_no HR.out, ?_⟩
          exact ((Below.refl _ _).alloc (Nat.le_refl _) _).alloc (by simp) _
      · have HR : Hid (okL s.data.toList = false) := rej1 (fun y hy => by have := (List.getElem?_eq_some_iff.1 hy).1; rw [← Lib.size_eq] at this; omega)
        have hsz : s.size = 1 := by omega
        clear hlt h0
        go_wp2_with (fail)
        go_returns
        refine ⟨gives_no HR.out, ?_⟩
        exact ((Below.refl _ _).alloc (Nat.le_refl _) _).alloc (by simp) _
    · clear HS
      by_cases hlt : 2 < s.size
      · obtain ⟨x, hx⟩ : ∃ x, s[2] = x := ⟨_, rfl⟩
        have hx' := Lib.data_getElem? s 2 hlt
        rw [hx] at hx'
        have hlt' : (2 : Int) < (s.size : Int) := by omega
        cases hl : letB x
        · have HR : Hid (okL s.data.toList = false) := rej2 hp (fun y hy => by rw [hx'] at hy; rw [← Option.some.inj hy]; exact hl)
          clear hx' hp
          go_wp2_with (go_at_call 13; refine (zzLetter13 _ _).mono ?_; rintro e w' ⟨rfl, hw⟩; rw [hw]; clear hw)
          go_returns
          refine ⟨gives_no HR.out, ?_⟩
          exact ((Below.refl _ _).alloc (Nat.le_refl _) _).alloc (by simp) _
        · have HS' : Hid (St s.data.toList 3 3 2 0 wb) := .inr (.inr (.inr (.inl ⟨rfl, Nat.le_refl _, rfl, rfl, hp, ⟨x, hx', hl⟩, by
            have e : ((s.data.toList.drop 2).take (3 - 2)) = [x] := by
              have h2 : (s.data.toList.drop 2)[0]? = some x := by rw [List.getElem?_drop]; exact hx'
              cases hd : s.data.toList.drop 2 with
              | nil => rw [hd] at h2; cases h2
              | cons a t => rw [hd] at h2; rw [Option.some.inj h2]; rfl
            rw [e]; simp [let_name hl]⟩)))
          clear hx' hp
          go_wp2_with (go_at_call 13; refine (zzLetter13 _ _).mono ?_; rintro e w' ⟨rfl, hw⟩; rw [hw]; clear hw)
          go_roundw
          case rel => exact ⟨3, 3, 2, 0, wb, by omega, by go_num, by go_num, by go_num, by go_num, HS', rfl⟩
          case measure => simp [intOf]; omega
      · have HR : Hid (okL s.data.toList = false) := rej2 hp (fun y hy => by have := (List.getElem?_eq_some_iff.1 hy).1; rw [← Lib.size_eq] at this; omega)
        have hsz : s.size = 2 := by omega
        clear hlt hp
        go_wp2_with (fail)
        go_returns
        refine ⟨gives_no HR.out, ?_⟩
        exact ((Below.refl _ _).alloc (Nat.le_refl _) _).alloc (by simp) _
    · clear HS
      by_cases hlt : k < s.size
      · obtain ⟨x, hx⟩ : ∃ x, s[k] = x := ⟨_, rfl⟩
        have hx' := Lib.data_getElem? s k hlt
        rw [hx] at hx'
        by_cases h41 : x = 41
        · subst h41
          have HS' : Hid (St s.data.toList (k + 1) 4 2 k wb) := .inr (.inr (.inr (.inr (.inl ⟨rfl, rfl, rfl, hp, h3, hx', hf, hn⟩))))
          clear hx' hp hf hn
          go_wp2_with (fail)
          go_roundw
          case rel => exact ⟨k + 1, 4, 2, k, wb, by omega, by go_num, by go_num, by go_num, by go_num, HS', rfl⟩
          case measure => simp [intOf]; omega
        · have e41 : ((x.toNat : Int) == 41) = false := by
            simp; intro h; exact h41 (UInt8.toNat_inj.1 (by simpa using (by omega : x.toNat = 41)))
          cases hnb : nameB x
          · have HR : Hid (okL s.data.toList = false) := rej3 hp (by omega) hx' h41 hnb hn
            clear hx' hp hf hn h41
            go_wp2_with (go_at_call 14; refine (zzName14 _ _).mono ?_; rintro e w' ⟨rfl, hw⟩; rw [hw]; clear hw)
            go_returns
            refine ⟨gives_no HR.out, ?_⟩
            exact ((Below.refl _ _).alloc (Nat.le_refl _) _).alloc (by simp) _
          · have HS' : Hid (St s.data.toList (k + 1) 3 2 0 wb) := .inr (.inr (.inr (.inl ⟨rfl, by omega, rfl, rfl, hp, hf, all_next h3 hx' hn hnb⟩)))
            clear hx' hp hf hn h41
            go_wp2_with (go_at_call 14; refine (zzName14 _ _).mono ?_; rintro e w' ⟨rfl, hw⟩; rw [hw]; clear hw)
            go_roundw
            case rel => exact ⟨k + 1, 3, 2, 0, wb, by omega, by go_num, by go_num, by go_num, by go_num, HS', rfl⟩
            case measure => simp [intOf]; omega
      · have HR : Hid (okL s.data.toList = false) := rej3_end hp (by rwa [List.take_of_length_le (by rw [List.length_drop, ← Lib.size_eq]; omega)] at hn)
        clear hp hf hn
        go_wp2_with (fail)
        go_returns
        refine ⟨gives_no HR.out, ?_⟩
        exact ((Below.refl _ _).alloc (Nat.le_refl _) _).alloc (by simp) _
    · clear HS
      by_cases hlt : ve + 1 < s.size
      · obtain ⟨x, hx⟩ : ∃ x, s[ve + 1] = x := ⟨_, rfl⟩
        have hx' := Lib.data_getElem? s (ve + 1) hlt
        rw [hx] at hx'
        cases hvb : valB x
        · have HR : Hid (okL s.data.toList = false) := rej4 hv (by omega) hx' hvb
          clear hx' hv
          go_wp2_with (go_at_call 15; refine (zzValue15 _ _).mono ?_; rintro e w' ⟨rfl, hw⟩; rw [hw]; clear hw)
          go_returns
          refine ⟨gives_no HR.out, ?_⟩
          exact ((Below.refl _ _).alloc (Nat.le_refl _) _).alloc (by simp) _
        · have HS' : Hid (St s.data.toList (ve + 1 + 1) 5 2 ve wb) := .inr (.inr (.inr (.inr (.inr ⟨rfl, by omega, rfl, hv, by
            have h2 : (s.data.toList.drop (ve + 1))[0]? = some x := by rw [List.getElem?_drop]; exact hx'
            have e : ve + 1 + 1 - (ve + 1) = 1 := by omega
            rw [e]
            cases hd : s.data.toList.drop (ve + 1) with
            | nil => rw [hd] at h2; cases h2
            | cons a t => rw [hd] at h2; rw [Option.some.inj h2]; simp [hvb]⟩))))
          clear hx' hv
          go_wp2_with (go_at_call 15; refine (zzValue15 _ _).mono ?_; rintro e w' ⟨rfl, hw⟩; rw [hw]; clear hw)
          go_roundw
          case rel => exact ⟨ve + 1 + 1, 5, 2, ve, wb, by omega, by go_num, by go_num, by go_num, by go_num, HS', rfl⟩
          case measure => simp [intOf]; omega
      · have HR : Hid (okL s.data.toList = false) := rej4_end hv (by rw [← Lib.size_eq]; omega)
        have hsz : (s.size : Int) ≤ (ve : Int) + 1 := by omega
        clear hv
        go_wp2_with (fail)
        go_returns
        refine ⟨gives_no HR.out, ?_⟩
        exact ((Below.refl _ _).alloc (Nat.le_refl _) _).alloc (by simp) _
    · clear HS
      by_cases hlt : k < s.size
      · obtain ⟨x, hx⟩ : ∃ x, s[k] = x := ⟨_, rfl⟩
        have hx' := Lib.data_getElem? s k hlt
        rw [hx] at hx'
        cases hvb : valB x
        · have HR : Hid (okL s.data.toList = false) := rej4 hv (by omega) hx' hvb
          clear hx' hv ha
          go_wp2_with (go_at_call 15; refine (zzValue15 _ _).mono ?_; rintro e w' ⟨rfl, hw⟩; rw [hw]; clear hw)
          go_returns
          refine ⟨gives_no HR.out, ?_⟩
          exact ((Below.refl _ _).alloc (Nat.le_refl _) _).alloc (by simp) _
        · have HS' : Hid (St s.data.toList (k + 1) 5 2 ve wb) := .inr (.inr (.inr (.inr (.inr ⟨rfl, by omega, rfl, hv, all_next' (by omega) hx' ha hvb⟩))))
          clear hx' hv ha
          go_wp2_with (go_at_call 15; refine (zzValue15 _ _).mono ?_; rintro e w' ⟨rfl, hw⟩; rw [hw]; clear hw)
          go_roundw
          case rel => exact ⟨k + 1, 5, 2, ve, wb, by omega, by go_num, by go_num, by go_num, by go_num, HS', rfl⟩
          case measure => simp [intOf]; omega
      · have hvl := hv.lo
        have HR : Hid (parseL s.data.toList = (kindN wb, (s.data.toList.drop 2).take (ve - 2), s.data.toList.drop (ve + 1), true)) := acc hv (by rw [← Lib.size_eq]; omega) (by rwa [List.take_of_length_le (by rw [List.length_drop, ← Lib.size_eq]; omega)] at ha)
        clear hv ha
        go_wp2
        go_returns
        refine ⟨⟨wb, s.extract 2 ve, s.extract (ve + 1) s.size, ?_, fun _ => ?_⟩, ?_⟩
        · unfold okL
          rw [HR.out]
        · rw [HR.out, Lib.extract_data, Lib.extract_data, List.take_of_length_le (l := s.data.toList.drop (ve + 1)) (by simp)]
        · exact ((Below.refl _ _).alloc (Nat.le_refl _) _).alloc (by simp) _
end Go.Proofs.Qxb6605907a
