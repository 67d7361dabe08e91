/-
  The automaton's states, and what each way out of it says of parseOp: lists of bytes alone.
-/
import Derived.Test.Qxb6605907aParse
import Derived.Lib.IndexLaws
namespace Go.Proofs.Qxb6605907a

def okL (l : List UInt8) : Bool := (parseL l).2.2.2

theorem pre_iff (l : List UInt8) (a b : UInt8) : Lib.hasPrefix l [a, b] = true ↔ l[0]? = some a ∧ l[1]? = some b := by
  unfold Lib.hasPrefix
  rw [List.isPrefixOf_iff_prefix]
  constructor
  · rintro ⟨t, rfl⟩
    exact ⟨rfl, rfl⟩
  · rintro ⟨h1, h2⟩
    match l, h1, h2 with
    | x :: y :: t, h1, h2 =>
      simp at h1 h2
      exact ⟨t, by rw [h1, h2]; rfl⟩
    | [_], _, h2 => simp at h2
    | [], h1, _ => simp at h1

/-- The head: w or r, and the opening bracket. -/
def Pre (l : List UInt8) (wb : Bool) : Prop := l[0]? = some (if wb then 119 else 114) ∧ l[1]? = some 40
def kindN (wb : Bool) : Nat := if wb then 1 else 0

theorem parse_pre {l : List UInt8} {wb : Bool} (h : Pre l wb) : parseL l = restL (kindN wb) (l.drop 2) := by
  unfold parseL
  cases wb
  · have h1 : Lib.hasPrefix l [119, 40] = false := by
      cases hh : Lib.hasPrefix l [119, 40]
      · rfl
      · have := ((pre_iff l 119 40).1 hh).1
        rw [h.1] at this
        exact absurd (Option.some.inj this) (by decide)
    have h2 : Lib.hasPrefix l [114, 40] = true := (pre_iff l 114 40).2 h
    rw [h1, h2]
    rfl
  · have h2 : Lib.hasPrefix l [119, 40] = true := (pre_iff l 119 40).2 h
    rw [h2]
    rfl
theorem parse_nopre {l : List UInt8} (h : ∀ wb, ¬ Pre l wb) : okL l = false := by
  unfold okL parseL
  have h1 : Lib.hasPrefix l [119, 40] = false := by
    cases hh : Lib.hasPrefix l [119, 40]
    · rfl
    · exact absurd ((pre_iff l 119 40).1 hh) (h true)
  have h2 : Lib.hasPrefix l [114, 40] = false := by
    cases hh : Lib.hasPrefix l [114, 40]
    · rfl
    · exact absurd ((pre_iff l 114 40).1 hh) (h false)
  rw [h1, h2]
  rfl
theorem rest_ok (k : Nat) (d : List UInt8) : (restL k d).2.2.2 = ((brCut d).2.2 && isVar (brCut d).1 && isVal (brCut d).2.1) := by
  unfold restL
  split
  · rename_i h; rw [h]
  · rename_i h; simpa using h

theorem name_not_br {c : UInt8} (h : nameB c = true) : c ≠ 41 := by
  intro e
  rw [e] at h
  exact absurd h (by decide)
theorem let_name {c : UInt8} (h : letB c = true) : nameB c = true := by unfold nameB; rw [h]; rfl

theorem all_take {p : UInt8 → Bool} {d : List UInt8} {n i : Nat} (h : (d.take i).all p = true) (hn : n < i) (x : UInt8) (hx : d[n]? = some x) : p x = true :=
  List.all_eq_true.1 h x (List.mem_iff_getElem?.2 ⟨n, by rw [List.getElem?_take, if_pos hn]; exact hx⟩)

/-- Where the first bracket lies behind a row of name bytes. -/
theorem br_here {d : List UInt8} {n : Nat} (h : d[n]? = some 41) (hn : (d.take n).all nameB = true) : brCut d = (d.take n, d.drop (n + 1), true) := by
  have hge := Lib.indexByte_ge d 41
  by_cases h1 : Lib.indexByte d 41 = -1
  · exact absurd h (Lib.indexByte_none h1 n)
  · obtain ⟨i, hi⟩ : ∃ i : Nat, Lib.indexByte d 41 = (i : Int) := ⟨(Lib.indexByte d 41).toNat, by omega⟩
    obtain ⟨h2, h3⟩ := Lib.indexByte_some hi
    have : i = n := by
      rcases Nat.lt_trichotomy i n with hl | hl | hl
      · exact absurd rfl (name_not_br (all_take hn hl 41 h2))
      · exact hl
      · exact absurd h (h3 n hl)
    rw [brCut_some hi, this]
/-- The first bracket, if any, lies behind place n, where no bracket lies. -/
theorem br_later {d : List UInt8} {n : Nat} {x : UInt8} (hx : d[n]? = some x) (h41 : x ≠ 41) (hn : (d.take n).all nameB = true) :
    (brCut d).2.2 = false ∨ ((brCut d).1)[n]? = some x := by
  have hge := Lib.indexByte_ge d 41
  by_cases h1 : Lib.indexByte d 41 = -1
  · rw [brCut_none h1]; exact .inl rfl
  · obtain ⟨i, hi⟩ : ∃ i : Nat, Lib.indexByte d 41 = (i : Int) := ⟨(Lib.indexByte d 41).toNat, by omega⟩
    obtain ⟨h2, h3⟩ := Lib.indexByte_some hi
    have hlt : n < i := by
      rcases Nat.lt_trichotomy i n with hl | hl | hl
      · exact absurd rfl (name_not_br (all_take hn hl 41 h2))
      · exfalso
        rw [hl, hx] at h2
        exact h41 (Option.some.inj h2)
      · exact hl
    rw [brCut_some hi]
    refine .inr ?_
    show (d.take i)[n]? = _
    rw [List.getElem?_take, if_pos hlt]
    exact hx

theorem isVar_all {l : List UInt8} (h : isVar l = true) : l.all nameB = true ∧ ∃ c, l[0]? = some c ∧ letB c = true := by
  unfold isVar at h
  cases l with
  | nil => cases h
  | cons c t =>
    simp only [Bool.and_eq_true] at h
    refine ⟨?_, c, rfl, h.1⟩
    have := h.2
    unfold isName at this
    simp only [Bool.and_eq_true] at this
    exact this.2

/-- Refusals. -/
theorem rej0 {l : List UInt8} (h : ∀ x, l[0]? = some x → x ≠ 119 ∧ x ≠ 114) : okL l = false := by
  refine parse_nopre fun wb hp => ?_
  have := h _ hp.1
  cases wb
  · exact this.2 rfl
  · exact this.1 rfl
theorem rej1 {l : List UInt8} (h : ∀ x, l[1]? = some x → x ≠ 40) : okL l = false :=
  parse_nopre fun _ hp => h 40 hp.2 rfl
theorem rej2 {l : List UInt8} {wb : Bool} (hp : Pre l wb) (h : ∀ x, l[2]? = some x → letB x = false) : okL l = false := by
  unfold okL
  rw [parse_pre hp, rest_ok]
  cases hv : isVar (brCut (l.drop 2)).1
  · cases (brCut (l.drop 2)).2.2 <;> rfl
  · exfalso
    obtain ⟨_, c, hc, hl⟩ := isVar_all hv
    have hx : l[2]? = some c := by
      have hge := Lib.indexByte_ge (l.drop 2) 41
      by_cases h1 : Lib.indexByte (l.drop 2) 41 = -1
      · rw [brCut_none h1] at hc
        have : (l.drop 2)[0]? = some c := hc
        rw [List.getElem?_drop] at this
        exact this
      · obtain ⟨i, hi⟩ : ∃ i : Nat, Lib.indexByte (l.drop 2) 41 = (i : Int) := ⟨(Lib.indexByte (l.drop 2) 41).toNat, by omega⟩
        rw [brCut_some hi] at hc
        have : ((l.drop 2).take i)[0]? = some c := hc
        rw [List.getElem?_take] at this
        split at this
        · rw [List.getElem?_drop] at this; exact this
        · cases this
    rw [h c hx] at hl
    cases hl
theorem rej3 {l : List UInt8} {wb : Bool} {k : Nat} {x : UInt8} (hp : Pre l wb) (hk : 2 ≤ k) (hx : l[k]? = some x) (h41 : x ≠ 41) (hnb : nameB x = false) (hn : ((l.drop 2).take (k - 2)).all nameB = true) : okL l = false := by
  unfold okL
  rw [parse_pre hp, rest_ok]
  have hx' : (l.drop 2)[k - 2]? = some x := by
    rw [List.getElem?_drop]
    have : 2 + (k - 2) = k := by omega
    rw [this]; exact hx
  rcases br_later hx' h41 hn with h | h
  · rw [h]; rfl
  · cases hv : isVar (brCut (l.drop 2)).1
    · cases (brCut (l.drop 2)).2.2 <;> rfl
    · exfalso
      have := List.all_eq_true.1 (isVar_all hv).1 x (List.mem_of_getElem? h)
      rw [hnb] at this
      cases this
theorem rej3_end {l : List UInt8} {wb : Bool} (hp : Pre l wb) (hn : (l.drop 2).all nameB = true) : okL l = false := by
  unfold okL
  rw [parse_pre hp, rest_ok]
  have hge := Lib.indexByte_ge (l.drop 2) 41
  by_cases h1 : Lib.indexByte (l.drop 2) 41 = -1
  · rw [brCut_none h1]; rfl
  · obtain ⟨i, hi⟩ : ∃ i : Nat, Lib.indexByte (l.drop 2) 41 = (i : Int) := ⟨(Lib.indexByte (l.drop 2) 41).toNat, by omega⟩
    exact absurd rfl (name_not_br (List.all_eq_true.1 hn 41 (List.mem_of_getElem? (Lib.indexByte_some hi).1)))

/-- What is known behind the closing bracket at place ve. -/
structure Var (l : List UInt8) (wb : Bool) (ve : Nat) : Prop where
  pre : Pre l wb
  lo : 3 ≤ ve
  br : l[ve]? = some 41
  fst : ∃ c, l[2]? = some c ∧ letB c = true
  all : ((l.drop 2).take (ve - 2)).all nameB = true

theorem Var.cut {l : List UInt8} {wb : Bool} {ve : Nat} (h : Var l wb ve) : brCut (l.drop 2) = ((l.drop 2).take (ve - 2), l.drop (ve + 1), true) := by
  have hlo := h.lo
  have hb : (l.drop 2)[ve - 2]? = some 41 := by
    rw [List.getElem?_drop]
    have : 2 + (ve - 2) = ve := by omega
    rw [this]; exact h.br
  rw [br_here hb h.all, List.drop_drop]
  have : 2 + (ve - 2 + 1) = ve + 1 := by omega
  rw [this]
theorem Var.isVar {l : List UInt8} {wb : Bool} {ve : Nat} (h : Var l wb ve) : Qxb6605907a.isVar ((l.drop 2).take (ve - 2)) = true := by
  have hlo := h.lo
  obtain ⟨c, hc, hl⟩ := h.fst
  have hx : ((l.drop 2).take (ve - 2))[0]? = some c := by
    rw [List.getElem?_take, if_pos (by omega), List.getElem?_drop]
    exact hc
  have ha := h.all
  cases ht : (l.drop 2).take (ve - 2) with
  | nil => rw [ht] at hx; cases hx
  | cons d t =>
    rw [ht] at hx ha
    have : d = c := Option.some.inj hx
    rw [this] at ha ⊢
    show (letB c && (!(c :: t).isEmpty && (c :: t).all nameB)) = true
    rw [hl, ha]
    rfl
theorem Var.parse {l : List UInt8} {wb : Bool} {ve : Nat} (h : Var l wb ve) : parseL l = if isVal (l.drop (ve + 1)) then (kindN wb, (l.drop 2).take (ve - 2), l.drop (ve + 1), true) else (kindN wb, [], [], false) := by
  rw [parse_pre h.pre]
  unfold restL
  rw [h.cut]
  simp only [h.isVar, Bool.true_and]
theorem rej4 {l : List UInt8} {wb : Bool} {ve k : Nat} {x : UInt8} (h : Var l wb ve) (hk : ve < k) (hx : l[k]? = some x) (hv : valB x = false) : okL l = false := by
  unfold okL
  rw [h.parse]
  have : isVal (l.drop (ve + 1)) = false := by
    cases hh : isVal (l.drop (ve + 1))
    · rfl
    · exfalso
      unfold isVal at hh
      simp only [Bool.and_eq_true] at hh
      have hm : x ∈ l.drop (ve + 1) := by
        rw [List.mem_iff_getElem?]
        refine ⟨k - (ve + 1), ?_⟩
        rw [List.getElem?_drop]
        have : ve + 1 + (k - (ve + 1)) = k := by omega
        rw [this]; exact hx
      have := List.all_eq_true.1 hh.2 x hm
      rw [hv] at this
      cases this
  rw [this]
  rfl
theorem rej4_end {l : List UInt8} {wb : Bool} {ve : Nat} (h : Var l wb ve) (hk : l.length = ve + 1) : okL l = false := by
  unfold okL
  rw [h.parse, List.drop_eq_nil_of_le (by omega)]
  rfl
theorem acc {l : List UInt8} {wb : Bool} {ve : Nat} (h : Var l wb ve) (hk : ve + 1 < l.length) (ha : (l.drop (ve + 1)).all valB = true) : parseL l = (kindN wb, (l.drop 2).take (ve - 2), l.drop (ve + 1), true) := by
  have : isVal (l.drop (ve + 1)) = true := by
    unfold isVal
    rw [ha]
    have : (l.drop (ve + 1)).isEmpty = false := by
      rw [List.isEmpty_eq_false_iff, ← List.length_pos_iff, List.length_drop]
      omega
    rw [this]
    rfl
  rw [h.parse, this]
  rfl
end Go.Proofs.Qxb6605907a
