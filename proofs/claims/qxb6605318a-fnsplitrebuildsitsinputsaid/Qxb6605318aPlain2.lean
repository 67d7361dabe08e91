/-
  What Split gives, as a plain function on lists of bytes, and how a scanner comes to the same.
-/
import Derived.Test.Qxb6605318aStrs
import Derived.Lib.IndexLaws
namespace Go.Proofs.Qxb6605318a

def isDig (b : UInt8) : Bool := decide (48 ≤ b.toNat) && decide (b.toNat ≤ 57)
def digs (l : List UInt8) : Bool := !l.isEmpty && l.all isDig

/-- Split behind the sign. -/
def bodyL (d : List UInt8) : List UInt8 × List UInt8 × Bool :=
  if digs (dotCut d).1 && (!(dotCut d).2.2 || digs (dotCut d).2.1) then ((dotCut d).1, (dotCut d).2.1, true) else ([], [], false)
def splitL (l : List UInt8) : List UInt8 × List UInt8 × Bool := bodyL (Lib.trimPrefix l [45])

theorem dig_not_dot {b : UInt8} (h : isDig b = true) : b ≠ 46 := by
  intro e
  rw [e] at h
  exact absurd h (by decide)

theorem dot_here {d : List UInt8} {n : Nat} (h : d[n]? = some 46) (hn : (d.take n).all isDig = true) : Lib.indexByte d 46 = (n : Int) := by
  have hge := Lib.indexByte_ge d 46
  by_cases h1 : Lib.indexByte d 46 = -1
  · exact absurd h (Lib.indexByte_none h1 n)
  · obtain ⟨i, hi⟩ : ∃ i : Nat, Lib.indexByte d 46 = (i : Int) := ⟨(Lib.indexByte d 46).toNat, by omega⟩
    obtain ⟨h2, h3⟩ := Lib.indexByte_some hi
    rw [hi]
    rcases Nat.lt_trichotomy i n with hl | hl | hl
    · exfalso
      have : (46 : UInt8) ∈ d.take n := by
        rw [List.mem_iff_getElem?]
        exact ⟨i, by rw [List.getElem?_take, if_pos hl]; exact h2⟩
      exact dig_not_dot (List.all_eq_true.1 hn _ this) rfl
    · rw [hl]
    · exact absurd h (h3 n hl)

theorem all_take {d : List UInt8} {n i : Nat} (h : (d.take i).all isDig = true) (hn : n < i) (x : UInt8) (hx : d[n]? = some x) : isDig x = true :=
  List.all_eq_true.1 h x (List.mem_iff_getElem?.2 ⟨n, by rw [List.getElem?_take, if_pos hn]; exact hx⟩)

/-- A byte that is neither a digit nor a point, ahead of every point: refused. -/
theorem body_bad {d : List UInt8} {n : Nat} {x : UInt8} (hx : d[n]? = some x) (h1 : isDig x = false) (h2 : x ≠ 46) (hn : (d.take n).all isDig = true) : bodyL d = ([], [], false) := by
  have hge := Lib.indexByte_ge d 46
  have hd : digs (dotCut d).1 = false := by
    by_cases h : Lib.indexByte d 46 = -1
    · rw [dotCut_none h]
      cases hdd : digs d with
      | false => rfl
      | true =>
        unfold digs at hdd
        simp only [Bool.and_eq_true] at hdd
        have := List.all_eq_true.1 hdd.2 x (List.mem_of_getElem? hx)
        rw [h1] at this
        cases this
    · obtain ⟨i, hi⟩ : ∃ i : Nat, Lib.indexByte d 46 = (i : Int) := ⟨(Lib.indexByte d 46).toNat, by omega⟩
      obtain ⟨h3, h4⟩ := Lib.indexByte_some hi
      rw [dotCut_some hi]
      have hlt : n < i := by
        rcases Nat.lt_trichotomy i n with hl | hl | hl
        · exact absurd (all_take hn hl 46 h3) (by decide)
        · exfalso
          rw [hl, hx] at h3
          exact h2 (Option.some.inj h3)
        · exact hl
      cases hdd : digs (d.take i) with
      | false => rfl
      | true =>
        unfold digs at hdd
        simp only [Bool.and_eq_true] at hdd
        have := all_take hdd.2 hlt x hx
        rw [h1] at this
        cases this
  unfold bodyL
  rw [hd]
  rfl

/-- The first byte is no digit (or there is none): refused. -/
theorem body_none {d : List UInt8} (h : ∀ x, d[0]? = some x → isDig x = false) : bodyL d = ([], [], false) := by
  cases d with
  | nil => rfl
  | cons x t =>
    have hx := h x rfl
    by_cases h46 : x = 46
    · subst h46
      have hi : Lib.indexByte (46 :: t) 46 = ((0 : Nat) : Int) := dot_here (n := 0) rfl rfl
      unfold bodyL
      rw [dotCut_some hi]
      rfl
    · exact body_bad (n := 0) rfl hx h46 rfl

/-- Digits alone. -/
theorem body_digits {d : List UInt8} (h0 : d ≠ []) (h : d.all isDig = true) : bodyL d = (d, [], true) := by
  have hi : Lib.indexByte d 46 = -1 := by
    have hge := Lib.indexByte_ge d 46
    by_cases h1 : Lib.indexByte d 46 = -1
    · exact h1
    · obtain ⟨i, hi⟩ : ∃ i : Nat, Lib.indexByte d 46 = (i : Int) := ⟨(Lib.indexByte d 46).toNat, by omega⟩
      exact absurd (List.all_eq_true.1 h 46 (List.mem_of_getElem? (Lib.indexByte_some hi).1)) (by decide)
  unfold bodyL
  rw [dotCut_none hi]
  have : digs d = true := by unfold digs; rw [h]; cases d <;> simp_all
  rw [this]
  rfl

/-- Digits, a point, and what follows. -/
theorem body_point {d : List UInt8} {n : Nat} (h0 : 0 < n) (h : d[n]? = some 46) (hn : (d.take n).all isDig = true) :
    bodyL d = if digs (d.drop (n + 1)) then (d.take n, d.drop (n + 1), true) else ([], [], false) := by
  have hi := dot_here h hn
  have hl : n < d.length := (List.getElem?_eq_some_iff.1 h).1
  have hd : digs (d.take n) = true := by
    unfold digs
    rw [hn]
    have : (d.take n).isEmpty = false := by
      rw [List.isEmpty_eq_false_iff, ← List.length_pos_iff, List.length_take]
      omega
    rw [this]
    rfl
  unfold bodyL
  rw [dotCut_some hi, hd]
  simp
end Go.Proofs.Qxb6605318a
