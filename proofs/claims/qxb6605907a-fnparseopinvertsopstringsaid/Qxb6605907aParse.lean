/-
  strings.Cut at the closing bracket; parseOp.
-/
import Derived.Test.Qxb6605907aNames
import Derived.Test.Qxb6605907aShelf
import Derived.Handy
namespace Go.Proofs.Qxb6605907a
open Go.RowKit

set_option maxHeartbeats 1000000 in
theorem cut22_none (s : ByteArray) (w : World) (h : Lib.indexByte s.data.toList 41 = -1) :
    Calls Try.prog 22 #[.string s, .string ⟨#[41]⟩] w fun e w' => e = .returned (.tuple #[.string s, .string ⟨#[]⟩, .bool false]) ∧ ∃ n, w' = w.drewN n := by
  go_enter Try.func22, Try.ntmps22
  go_wp2_with (go_at_call 28; refine (Try.stringslite_Index_one _ _ _).mono ?_; rintro e w' ⟨rfl, rfl⟩)
  go_ret3
  exact ⟨rfl, 0, rfl⟩

set_option maxHeartbeats 1000000 in
theorem cut22_some (s : ByteArray) (w : World) (i : Nat) (h : Lib.indexByte s.data.toList 41 = (i : Int)) (hi : i < s.size) (hs : s.size ≤ 4194304) :
    Calls Try.prog 22 #[.string s, .string ⟨#[41]⟩] w fun e w' => e = .returned (.tuple #[.string (s.extract 0 i), .string (s.extract (i + 1) s.size), .bool true]) ∧ ∃ n, w' = w.drewN n := by
  go_enter Try.func22, Try.ntmps22
  go_wp2_with (go_at_call 28; refine (Try.stringslite_Index_one _ _ _).mono ?_; rintro e w' ⟨rfl, rfl⟩)
  go_quiet (fail)
  go_wp2
  go_ret3
  exact ⟨rfl, _, rfl⟩

theorem cut18_none (s : ByteArray) (w : World) (h : Lib.indexByte s.data.toList 41 = -1) :
    Calls Try.prog 18 #[.string s, .string ⟨#[41]⟩] w fun e w' => e = .returned (.tuple #[.string s, .string ⟨#[]⟩, .bool false]) ∧ ∃ n, w' = w.drewN n := by
  go_enter Try.func18, Try.ntmps18
  go_wp2_with (go_at_call 22; refine (cut22_none _ _ h).mono ?_; rintro e w' ⟨rfl, n, rfl⟩)
  go_ret3
  exact ⟨rfl, _, rfl⟩
theorem cut18_some (s : ByteArray) (w : World) (i : Nat) (h : Lib.indexByte s.data.toList 41 = (i : Int)) (hi : i < s.size) (hs : s.size ≤ 4194304) :
    Calls Try.prog 18 #[.string s, .string ⟨#[41]⟩] w fun e w' => e = .returned (.tuple #[.string (s.extract 0 i), .string (s.extract (i + 1) s.size), .bool true]) ∧ ∃ n, w' = w.drewN n := by
  go_enter Try.func18, Try.ntmps18
  go_wp2_with (go_at_call 22; refine (cut22_some _ _ i h hi hs).mono ?_; rintro e w' ⟨rfl, n, rfl⟩)
  go_ret3
  exact ⟨rfl, _, rfl⟩

/-- The part ahead of the first closing bracket, the part behind it, whether there is one. -/
def brCut (l : List UInt8) : List UInt8 × List UInt8 × Bool :=
  match Lib.indexByte l 41 with
  | .ofNat i => (l.take i, l.drop (i + 1), true)
  | .negSucc _ => (l, [], false)
theorem brCut_none {l : List UInt8} (h : Lib.indexByte l 41 = -1) : brCut l = (l, [], false) := by
  unfold brCut; rw [h]; rfl
theorem brCut_some {l : List UInt8} {i : Nat} (h : Lib.indexByte l 41 = (i : Int)) : brCut l = (l.take i, l.drop (i + 1), true) := by
  unfold brCut; rw [h]

theorem cut18_any (s : ByteArray) (w : World) (hs : s.size ≤ 4194304) :
    Calls Try.prog 18 #[.string s, .string ⟨#[41]⟩] w fun e w' => (∃ a b : ByteArray, e = .returned (.tuple #[.string a, .string b, .bool (brCut s.data.toList).2.2]) ∧ a.data.toList = (brCut s.data.toList).1 ∧ b.data.toList = (brCut s.data.toList).2.1) ∧ ∃ n, w' = w.drewN n := by
  by_cases h : Lib.indexByte s.data.toList 41 = -1
  · refine (cut18_none s w h).mono fun e w' ⟨he, hw⟩ => ⟨⟨s, ⟨#[]⟩, ?_, ?_, ?_⟩, hw⟩
    · rw [he, brCut_none h]
    · rw [brCut_none h]
    · rw [brCut_none h]
  · have hge := Lib.indexByte_ge s.data.toList 41
    obtain ⟨i, hi⟩ : ∃ i : Nat, Lib.indexByte s.data.toList 41 = (i : Int) := ⟨(Lib.indexByte s.data.toList 41).toNat, by omega⟩
    have hlt : i < s.size := by
      rw [Lib.size_eq]
      exact (List.getElem?_eq_some_iff.1 (Lib.indexByte_some hi).1).1
    refine (cut18_some s w i hi hlt hs).mono fun e w' ⟨he, hw⟩ => ⟨⟨s.extract 0 i, s.extract (i + 1) s.size, by rw [he, brCut_some hi], ?_, ?_⟩, hw⟩
    · rw [brCut_some hi, Lib.extract_data]; simp
    · rw [brCut_some hi, Lib.extract_data]; exact List.take_of_length_le (by simp)

/-- What parseOp gives: kind, variable, value, whether it accepts. -/
def restL (k : Nat) (d : List UInt8) : Nat × List UInt8 × List UInt8 × Bool :=
  if (brCut d).2.2 && isVar (brCut d).1 && isVal (brCut d).2.1 then (k, (brCut d).1, (brCut d).2.1, true) else (k, [], [], false)
def parseL (l : List UInt8) : Nat × List UInt8 × List UInt8 × Bool :=
  if Lib.hasPrefix l [119, 40] then restL 1 (l.drop 2) else if Lib.hasPrefix l [114, 40] then restL 0 (l.drop 2) else (0, [], [], false)

/-- An Op and a bool that spell r are handed back. -/
def GivesOp (r : Nat × List UInt8 × List UInt8 × Bool) (e : Ending) : Prop :=
  ∃ a b : ByteArray, e = .returned (.tuple #[.agg #[.int .u8 (r.1 : Nat), .string a, .string b], .bool r.2.2.2]) ∧ a.data.toList = r.2.1 ∧ b.data.toList = r.2.2.1

set_option maxHeartbeats 1000000 in
theorem parse_other (s : ByteArray) (w : World) (h1 : Lib.hasPrefix s.data.toList [119, 40] = false) (h2 : Lib.hasPrefix s.data.toList [114, 40] = false) :
    Calls Try.prog 12 #[.string s] w fun e w' => GivesOp (parseL s.data.toList) e ∧ Below w.heap.size w w' := by
  have HP : Hid (parseL s.data.toList = (0, [], [], false)) := by show _ = _; unfold parseL; rw [h1, h2]; rfl
  go_enter Try.func12, Try.ntmps12
  go_wp2_with (go_at_call 17; refine (Try.strings_HasPrefix _ _ _).mono ?_; rintro e w' ⟨rfl, rfl⟩)
  go_returns
  exact ⟨by rw [HP.out]; exact ⟨_, _, rfl, rfl, rfl⟩, ((Below.refl _ _).alloc (Nat.le_refl _) _).alloc (by simp) _⟩

theorem below_n {w w1 : World} (h : Below w.heap.size w w1) (n : Nat) : Below w.heap.size w (w1.drewN n) := ⟨h.os, h.tape, h.output, h.size, h.block⟩

/-- One box of three cells, as it lies behind a callee that laid memory of its own. -/
structure One (w w1 : World) (x y z : Value) : Prop where
  r0 : w1.cell? ⟨w.heap.size, 0, none⟩ = some x
  r1 : w1.cell? ⟨w.heap.size, 1, none⟩ = some y
  r2 : w1.cell? ⟨w.heap.size, 2, none⟩ = some z
  fr : ∀ j, w1.frozen? ⟨w.heap.size, j, none⟩ = false
  size : w.heap.size < w1.heap.size
  below : Below w.heap.size w w1
theorem one_of {w w1 : World} {x y z : Value} {t : TypeId} (hb : Below (w.alloc (.cells #[x, y, z] t)).heap.size (w.alloc (.cells #[x, y, z] t)) w1) : One w w1 x y z := by
  have hs := hb.size
  have hz : (w.alloc (.cells #[x, y, z] t)).heap.size = w.heap.size + 1 := by simp
  rw [hz] at hb hs
  have c0 : ∀ j, w1.cell? ⟨w.heap.size, j, none⟩ = _ := fun j => hb.cell (p := ⟨w.heap.size, j, none⟩) (by show w.heap.size < _; omega)
  have f0 : ∀ j, w1.frozen? ⟨w.heap.size, j, none⟩ = _ := fun j => hb.frozen (p := ⟨w.heap.size, j, none⟩) (by show w.heap.size < _; omega)
  exact ⟨(c0 0).trans (by simp), (c0 1).trans (by simp), (c0 2).trans (by simp), fun j => (f0 j).trans (by simp), by omega, ((Below.refl w.heap.size w).alloc (Nat.le_refl _) _).trans (hb.mono (by omega))⟩

/-- parseOp's two boxes (the result's and the variable's), as they lie behind a callee that laid memory of its own. -/
structure Two (w w1 : World) (k : Int) : Prop where
  r0 : w1.cell? ⟨w.heap.size, 0, none⟩ = some (.int .u8 0)
  r1 : w1.cell? ⟨w.heap.size, 1, none⟩ = some (.string ⟨#[]⟩)
  r2 : w1.cell? ⟨w.heap.size, 2, none⟩ = some (.string ⟨#[]⟩)
  o0 : w1.cell? ⟨w.heap.size + 1, 0, none⟩ = some (.int .u8 k)
  o1 : w1.cell? ⟨w.heap.size + 1, 1, none⟩ = some (.string ⟨#[]⟩)
  o2 : w1.cell? ⟨w.heap.size + 1, 2, none⟩ = some (.string ⟨#[]⟩)
  fr : ∀ j, w1.frozen? ⟨w.heap.size, j, none⟩ = false
  fo : ∀ j, w1.frozen? ⟨w.heap.size + 1, j, none⟩ = false
  size : w.heap.size + 1 < w1.heap.size
  below : Below w.heap.size w w1

theorem two_of {w w1 : World} {k : Int} {n : Nat} (hb : Below (((w.alloc (.cells #[.int .u8 0, .string ⟨#[]⟩, .string ⟨#[]⟩] 25)).alloc (.cells #[.int .u8 k, .string ⟨#[]⟩, .string ⟨#[]⟩] 25)).drewN n).heap.size (((w.alloc (.cells #[.int .u8 0, .string ⟨#[]⟩, .string ⟨#[]⟩] 25)).alloc (.cells #[.int .u8 k, .string ⟨#[]⟩, .string ⟨#[]⟩] 25)).drewN n) w1) : Two w w1 k := by
  have hs := hb.size
  have hz : (((w.alloc (.cells #[.int .u8 0, .string ⟨#[]⟩, .string ⟨#[]⟩] 25)).alloc (.cells #[.int .u8 k, .string ⟨#[]⟩, .string ⟨#[]⟩] 25)).drewN n).heap.size = w.heap.size + 1 + 1 := by simp
  rw [hz] at hb hs
  have c0 : ∀ j, w1.cell? ⟨w.heap.size, j, none⟩ = _ := fun j => hb.cell (p := ⟨w.heap.size, j, none⟩) (by show w.heap.size < _; omega)
  have c1 : ∀ j, w1.cell? ⟨w.heap.size + 1, j, none⟩ = _ := fun j => hb.cell (p := ⟨w.heap.size + 1, j, none⟩) (by show w.heap.size + 1 < _; omega)
  have f0 : ∀ j, w1.frozen? ⟨w.heap.size, j, none⟩ = _ := fun j => hb.frozen (p := ⟨w.heap.size, j, none⟩) (by show w.heap.size < _; omega)
  have f1 : ∀ j, w1.frozen? ⟨w.heap.size + 1, j, none⟩ = _ := fun j => hb.frozen (p := ⟨w.heap.size + 1, j, none⟩) (by show w.heap.size + 1 < _; omega)
  refine ⟨(c0 0).trans (by simp), (c0 1).trans (by simp), (c0 2).trans (by simp), (c1 0).trans (by simp), (c1 1).trans (by simp), (c1 2).trans (by simp), fun j => (f0 j).trans (by simp), fun j => (f1 j).trans (by simp), by omega, ?_⟩
  have h0 : Below w.heap.size w (((w.alloc (.cells #[.int .u8 0, .string ⟨#[]⟩, .string ⟨#[]⟩] 25)).alloc (.cells #[.int .u8 k, .string ⟨#[]⟩, .string ⟨#[]⟩] 25)).drewN n) := by
    have := ((Below.refl w.heap.size w).alloc (Nat.le_refl _) (.cells #[.int .u8 0, .string ⟨#[]⟩, .string ⟨#[]⟩] 25)).alloc (by simp) (.cells #[.int .u8 k, .string ⟨#[]⟩, .string ⟨#[]⟩] 25)
    exact ⟨this.os, this.tape, this.output, this.size, this.block⟩
  exact h0.trans (hb.mono (by omega))

theorem Two.next {w w1 w2 : World} {k : Int} (h : Two w w1 k) (hb : Below w1.heap.size w1 w2) : Two w w2 k := by
  have hs := h.size
  have hs2 := hb.size
  have c0 : ∀ j, w2.cell? ⟨w.heap.size, j, none⟩ = w1.cell? ⟨w.heap.size, j, none⟩ := fun j => hb.cell (p := ⟨w.heap.size, j, none⟩) (by show w.heap.size < _; omega)
  have c1 : ∀ j, w2.cell? ⟨w.heap.size + 1, j, none⟩ = w1.cell? ⟨w.heap.size + 1, j, none⟩ := fun j => hb.cell (p := ⟨w.heap.size + 1, j, none⟩) (by show w.heap.size + 1 < _; omega)
  have f0 : ∀ j, w2.frozen? ⟨w.heap.size, j, none⟩ = w1.frozen? ⟨w.heap.size, j, none⟩ := fun j => hb.frozen (p := ⟨w.heap.size, j, none⟩) (by show w.heap.size < _; omega)
  have f1 : ∀ j, w2.frozen? ⟨w.heap.size + 1, j, none⟩ = w1.frozen? ⟨w.heap.size + 1, j, none⟩ := fun j => hb.frozen (p := ⟨w.heap.size + 1, j, none⟩) (by show w.heap.size + 1 < _; omega)
  exact ⟨(c0 0).trans h.r0, (c0 1).trans h.r1, (c0 2).trans h.r2, (c1 0).trans h.o0, (c1 1).trans h.o1, (c1 2).trans h.o2, fun j => (f0 j).trans (h.fr j), fun j => (f1 j).trans (h.fo j), by omega, h.below.trans (hb.mono (by have := h.below.size; omega))⟩

set_option maxHeartbeats 4000000 in
theorem parse_w (s d : ByteArray) (w : World) (hs : s.size ≤ 4194304) (h2 : 2 ≤ s.size) (h1 : Lib.hasPrefix s.data.toList [119, 40] = true) (HD : Hid (s.extract 2 s.size = d)) :
    Calls Try.prog 12 #[.string s] w fun e w' => GivesOp (restL 1 d.data.toList) e ∧ Below w.heap.size w w' := by
  have hds : d.size ≤ 4194304 := by have := congrArg ByteArray.size HD.out; simp at this; omega
  have h2' : (2 : Int) ≤ (s.size : Int) := by omega
  go_enter Try.func12, Try.ntmps12
  go_wp2_with (go_at_call 17; refine (Try.strings_HasPrefix _ _ _).mono ?_; rintro e w' ⟨rfl, hw⟩; rw [hw]; clear hw)
  rw [HD.out]
  refine (cut18_any d _ hds).mono ?_
  rintro e w1 ⟨⟨a, b, rfl, ha, hb⟩, n, rfl⟩
  obtain ⟨pt, hpt⟩ : ∃ pt, pt = (brCut d.data.toList).2.2 := ⟨_, rfl⟩
  rw [← hpt]
  have HR : Hid (restL 1 d.data.toList = if pt && isVar a.data.toList && isVal b.data.toList then (1, a.data.toList, b.data.toList, true) else (1, [], [], false)) := by
    show _ = _; unfold restL; rw [ha, hb, hpt]
  clear ha hb hpt
  cases pt
  · have HR' : Hid (restL 1 d.data.toList = (1, [], [], false)) := by show _ = _; rw [HR.out]; rfl
    go_wp2
    go_returns
    refine ⟨by rw [HR'.out]; exact ⟨_, _, rfl, rfl, rfl⟩, (((below_n ?_ n).setCell (Nat.le_refl _) _).setCell (Nat.le_refl _) _).setCell (Nat.le_refl _) _⟩
    exact ((Below.refl _ _).alloc (Nat.le_refl _) _).alloc (by simp) _
  · cases hv : isVar a.data.toList
    · have HR' : Hid (restL 1 d.data.toList = (1, [], [], false)) := by show _ = _; rw [HR.out, hv]; rfl
      go_wp2_with (go_at_call 19; refine (isVar19 _ _).mono ?_; rintro e w1 ⟨rfl, hb1⟩; have T1 := two_of hb1; clear hb1; obtain ⟨r0, r1, r2, o0, o1, o2, fr, fo, sz, bl⟩ := T1)
      refine bodyPost_ret (v := .tuple #[.agg #[.int .u8 1, .string ⟨#[]⟩, .string ⟨#[]⟩], .bool false]) (by simp [results, Try.results12, go_sem, r0, r1, r2]) rfl ⟨by rw [HR'.out]; exact ⟨_, _, rfl, rfl, rfl⟩, ?_⟩
      exact ((bl.setCell (Nat.le_refl _) _).setCell (Nat.le_refl _) _).setCell (Nat.le_refl _) _
    · cases hvl : isVal b.data.toList
      · have HR' : Hid (restL 1 d.data.toList = (1, [], [], false)) := by show _ = _; rw [HR.out, hv, hvl]; rfl
        go_wp2_with (first
          | (go_at_call 19; refine (isVar19 _ _).mono ?_; rintro e w1 ⟨rfl, hb1⟩; have T1 : Hid _ := two_of hb1; clear hb1)
          | (go_at_call 20; refine (is20 _ _).mono ?_; rintro e w2 ⟨rfl, hb2⟩; have T2 := T1.out.next hb2; clear hb2; obtain ⟨r0, r1, r2, o0, o1, o2, fr, fo, sz, bl⟩ := T2))
        refine bodyPost_ret (v := .tuple #[.agg #[.int .u8 1, .string ⟨#[]⟩, .string ⟨#[]⟩], .bool false]) (by simp [results, Try.results12, go_sem, r0, r1, r2]) rfl ⟨by rw [HR'.out]; exact ⟨_, _, rfl, rfl, rfl⟩, ?_⟩
        exact ((bl.setCell (Nat.le_refl _) _).setCell (Nat.le_refl _) _).setCell (Nat.le_refl _) _
      · have HR' : Hid (restL 1 d.data.toList = (1, a.data.toList, b.data.toList, true)) := by show _ = _; rw [HR.out, hv, hvl]; rfl
        go_wp2_with (first
          | (go_at_call 19; refine (isVar19 _ _).mono ?_; rintro e w1 ⟨rfl, hb1⟩; have T1 : Hid _ := two_of hb1; clear hb1)
          | (go_at_call 20; refine (is20 _ _).mono ?_; rintro e w2 ⟨rfl, hb2⟩; have T2 := T1.out.next hb2; clear hb2; obtain ⟨r0, r1, r2, o0, o1, o2, fr, fo, sz, bl⟩ := T2))
        refine bodyPost_ret (v := .tuple #[.agg #[.int .u8 1, .string a, .string b], .bool true]) (by simp [results, Try.results12, go_sem, r0, r1, r2]) rfl ⟨by rw [HR'.out]; exact ⟨_, _, rfl, rfl, rfl⟩, ?_⟩
        exact ((((bl.setCell (Nat.le_succ _) _).setCell (Nat.le_succ _) _).setCell (Nat.le_refl _) _).setCell (Nat.le_refl _) _).setCell (Nat.le_refl _) _

set_option maxHeartbeats 4000000 in
theorem parse_r (s d : ByteArray) (w : World) (hs : s.size ≤ 4194304) (h2 : 2 ≤ s.size) (h1 : Lib.hasPrefix s.data.toList [119, 40] = false) (hr1 : Lib.hasPrefix s.data.toList [114, 40] = true) (HD : Hid (s.extract 2 s.size = d)) :
    Calls Try.prog 12 #[.string s] w fun e w' => GivesOp (restL 0 d.data.toList) e ∧ Below w.heap.size w w' := by
  have hds : d.size ≤ 4194304 := by have := congrArg ByteArray.size HD.out; simp at this; omega
  have h2' : (2 : Int) ≤ (s.size : Int) := by omega
  go_enter Try.func12, Try.ntmps12
  go_wp2_with (go_at_call 17; refine (Try.strings_HasPrefix _ _ _).mono ?_; rintro e w' ⟨rfl, hw⟩; rw [hw]; clear hw)
  rw [HD.out]
  refine (cut18_any d _ hds).mono ?_
  rintro e w1 ⟨⟨a, b, rfl, ha, hb⟩, n, rfl⟩
  obtain ⟨pt, hpt⟩ : ∃ pt, pt = (brCut d.data.toList).2.2 := ⟨_, rfl⟩
  rw [← hpt]
  have HR : Hid (restL 0 d.data.toList = if pt && isVar a.data.toList && isVal b.data.toList then (0, a.data.toList, b.data.toList, true) else (0, [], [], false)) := by
    show _ = _; unfold restL; rw [ha, hb, hpt]
  clear ha hb hpt
  cases pt
  · have HR' : Hid (restL 0 d.data.toList = (0, [], [], false)) := by show _ = _; rw [HR.out]; rfl
    go_wp2
    go_returns
    refine ⟨by rw [HR'.out]; exact ⟨_, _, rfl, rfl, rfl⟩, (((below_n ?_ n).setCell (Nat.le_refl _) _).setCell (Nat.le_refl _) _).setCell (Nat.le_refl _) _⟩
    exact ((Below.refl _ _).alloc (Nat.le_refl _) _).alloc (by simp) _
  · cases hv : isVar a.data.toList
    · have HR' : Hid (restL 0 d.data.toList = (0, [], [], false)) := by show _ = _; rw [HR.out, hv]; rfl
      go_wp2_with (go_at_call 19; refine (isVar19 _ _).mono ?_; rintro e w1 ⟨rfl, hb1⟩; have T1 := two_of hb1; clear hb1; obtain ⟨r0, r1, r2, o0, o1, o2, fr, fo, sz, bl⟩ := T1)
      refine bodyPost_ret (v := .tuple #[.agg #[.int .u8 0, .string ⟨#[]⟩, .string ⟨#[]⟩], .bool false]) (by simp [results, Try.results12, go_sem, r0, r1, r2]) rfl ⟨by rw [HR'.out]; exact ⟨_, _, rfl, rfl, rfl⟩, ?_⟩
      exact ((bl.setCell (Nat.le_refl _) _).setCell (Nat.le_refl _) _).setCell (Nat.le_refl _) _
    · cases hvl : isVal b.data.toList
      · have HR' : Hid (restL 0 d.data.toList = (0, [], [], false)) := by show _ = _; rw [HR.out, hv, hvl]; rfl
        go_wp2_with (first
          | (go_at_call 19; refine (isVar19 _ _).mono ?_; rintro e w1 ⟨rfl, hb1⟩; have T1 : Hid _ := two_of hb1; clear hb1)
          | (go_at_call 20; refine (is20 _ _).mono ?_; rintro e w2 ⟨rfl, hb2⟩; have T2 := T1.out.next hb2; clear hb2; obtain ⟨r0, r1, r2, o0, o1, o2, fr, fo, sz, bl⟩ := T2))
        refine bodyPost_ret (v := .tuple #[.agg #[.int .u8 0, .string ⟨#[]⟩, .string ⟨#[]⟩], .bool false]) (by simp [results, Try.results12, go_sem, r0, r1, r2]) rfl ⟨by rw [HR'.out]; exact ⟨_, _, rfl, rfl, rfl⟩, ?_⟩
        exact ((bl.setCell (Nat.le_refl _) _).setCell (Nat.le_refl _) _).setCell (Nat.le_refl _) _
      · have HR' : Hid (restL 0 d.data.toList = (0, a.data.toList, b.data.toList, true)) := by show _ = _; rw [HR.out, hv, hvl]; rfl
        go_wp2_with (first
          | (go_at_call 19; refine (isVar19 _ _).mono ?_; rintro e w1 ⟨rfl, hb1⟩; have T1 : Hid _ := two_of hb1; clear hb1)
          | (go_at_call 20; refine (is20 _ _).mono ?_; rintro e w2 ⟨rfl, hb2⟩; have T2 := T1.out.next hb2; clear hb2; obtain ⟨r0, r1, r2, o0, o1, o2, fr, fo, sz, bl⟩ := T2))
        refine bodyPost_ret (v := .tuple #[.agg #[.int .u8 0, .string a, .string b], .bool true]) (by simp [results, Try.results12, go_sem, r0, r1, r2]) rfl ⟨by rw [HR'.out]; exact ⟨_, _, rfl, rfl, rfl⟩, ?_⟩
        exact ((((bl.setCell (Nat.le_succ _) _).setCell (Nat.le_succ _) _).setCell (Nat.le_refl _) _).setCell (Nat.le_refl _) _).setCell (Nat.le_refl _) _

theorem prefix_two {s : ByteArray} {a b : UInt8} (h : Lib.hasPrefix s.data.toList [a, b] = true) : 2 ≤ s.size := by
  unfold Lib.hasPrefix at h
  rw [List.isPrefixOf_iff_prefix] at h
  have := h.length_le
  rw [← Lib.size_eq] at this
  exact this
theorem ext_two (s : ByteArray) : (s.extract 2 s.size).data.toList = s.data.toList.drop 2 := by
  rw [Lib.extract_data]; exact List.take_of_length_le (by simp)

theorem parse12 (s : ByteArray) (w : World) (hs : s.size ≤ 4194304) :
    Calls Try.prog 12 #[.string s] w fun e w' => GivesOp (parseL s.data.toList) e ∧ Below w.heap.size w w' := by
  cases h1 : Lib.hasPrefix s.data.toList [119, 40]
  · cases h2 : Lib.hasPrefix s.data.toList [114, 40]
    · exact parse_other s w h1 h2
    · have := parse_r s (s.extract 2 s.size) w hs (prefix_two h2) h1 h2 rfl
      have e : parseL s.data.toList = restL 0 (s.extract 2 s.size).data.toList := by unfold parseL; rw [h1, h2, ext_two]; rfl
      rw [e]
      exact this
  · have := parse_w s (s.extract 2 s.size) w hs (prefix_two h1) h1 rfl
    have e : parseL s.data.toList = restL 1 (s.extract 2 s.size).data.toList := by unfold parseL; rw [h1, ext_two]; rfl
    rw [e]
    exact this

theorem parse6 (s : ByteArray) (w : World) (hs : s.size ≤ 4194304) :
    Calls Try.prog 6 #[.string s] w fun e w' => GivesOp (parseL s.data.toList) e ∧ Below w.heap.size w w' := by
  go_enter Try.func6, Try.ntmps6
  go_wp2_with (go_at_call 12; refine (parse12 _ _ hs).mono ?_; rintro e w1 ⟨⟨a, b, rfl, ha, hb⟩, hB⟩; have T1 := one_of hB; clear hB; obtain ⟨r0, r1, r2, fr, sz, bl⟩ := T1)
  refine bodyPost_ret (v := .tuple #[.agg #[.int .u8 ((parseL s.data.toList).1 : Nat), .string a, .string b], .bool (parseL s.data.toList).2.2.2]) (by simp [results, Try.results6, go_sem, r0, r1, r2]) rfl ⟨⟨_, _, rfl, ha, hb⟩, ?_⟩
  exact ((bl.setCell (Nat.le_refl _) _).setCell (Nat.le_refl _) _).setCell (Nat.le_refl _) _
end Go.Proofs.Qxb6605907a
