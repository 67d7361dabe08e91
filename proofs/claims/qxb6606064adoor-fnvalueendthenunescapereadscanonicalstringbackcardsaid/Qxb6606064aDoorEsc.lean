/-
  zzHexLower and zzCanonicalEscape: the plain writer and its walk.
-/
import Derived.Test.Qxb6606064aDoorCopy
namespace Go.Proofs.Qxb6606064aDoor
open Go.RowKit

def hexd (v : Nat) : UInt8 := if v < 10 then UInt8.ofNat (48 + v) else UInt8.ofNat (87 + v)
def esc1 (c : UInt8) : List UInt8 :=
  if c = 34 then [92, 34] else if c = 92 then [92, 92] else if c = 8 then [92, 98] else if c = 12 then [92, 102] else if c = 10 then [92, 110] else if c = 13 then [92, 114] else if c = 9 then [92, 116]
  else if c.toNat < 32 then [92, 117, 48, 48, hexd (c.toNat / 16), hexd (c.toNat % 16)] else [c]
def esc (l : List UInt8) : List UInt8 := l.flatMap esc1

theorem esc_nil : esc [] = [] := rfl
theorem esc_append (a b : List UInt8) : esc (a ++ b) = esc a ++ esc b := List.flatMap_append
theorem esc_one (c : UInt8) : esc [c] = esc1 c := by simp [esc]
theorem esc_cons (c : UInt8) (l : List UInt8) : esc (c :: l) = esc1 c ++ esc l := rfl
theorem esc1_len (c : UInt8) : (esc1 c).length ≤ 6 ∧ 1 ≤ (esc1 c).length := by
  unfold esc1
  repeat' split
  all_goals simp
theorem esc_len (l : List UInt8) : (esc l).length ≤ 6 * l.length := by
  induction l with
  | nil => simp [esc]
  | cons c l ih => rw [esc_cons, List.length_append, List.length_cons]; have := (esc1_len c).1; omega
theorem take_snoc (g : List UInt8) (t : Nat) (h : t < g.length) : g.take (t + 1) = g.take t ++ [g[t]] := List.take_succ_eq_append_getElem h

theorem beq_f {u : UInt8} {k : Nat} (h : u ≠ UInt8.ofNat k) : ((u.toNat : Int) == (k : Int)) = false := by
  have : u.toNat ≠ k := fun e => h (by rw [← e]; simp)
  simp
  omega

set_option maxHeartbeats 400000 in
theorem hex12 (x : Int) (w : World) (h0 : 0 ≤ x) (h1 : x < 16) :
    Calls Tryd.prog 12 #[.int .u8 x] w fun e w' => e = .returned (.int .u8 ((hexd x.toNat).toNat : Int)) ∧ w' = w := by
  by_cases h : x < 10
  · have e : ((hexd x.toNat).toNat : Int) = 48 + x := by
      unfold hexd
      rw [if_pos (by omega)]
      simp
      omega
    rw [e]
    go_enter Tryd.func12, Tryd.ntmps12
    go_wp2
    go_ret
    exact ⟨by go_num, rfl⟩
  · have e : ((hexd x.toNat).toNat : Int) = 97 + (x - 10) := by
      unfold hexd
      rw [if_neg (by omega)]
      simp
      omega
    rw [e]
    go_enter Tryd.func12, Tryd.ntmps12
    go_wp2
    go_ret
    exact ⟨by go_num, rfl⟩

section
variable {P : Program}
theorem src_new (w : World) {tx e' : TypeId} (hk : P.underlying tx = some (.slice e')) (g c : Nat) (l : List UInt8) (h : ∀ (j : Nat) (u : UInt8), l[j]? = some u → w.cell? ⟨g, j, none⟩ = some (.int .u8 (u.toNat : Int))) : Src P 1 tx (.slice (some ⟨g, 0, none⟩) l.length c) l.length (bys l) w :=
  Src.ofSlice w hk ⟨g, 0, none⟩ l.length c (bys l) (by rw [bys_length, Nat.mul_one]) (fun j u hj => by
    unfold bys at hj
    rw [List.getElem?_map] at hj
    obtain ⟨b, hb, rfl⟩ := Option.map_eq_some_iff.1 hj
    simpa [Addr.add_lit] using h j b hb) bys_one
theorem src_two (w : World) {tx e' : TypeId} (hk : P.underlying tx = some (.slice e')) (g c : Nat) (x y : UInt8) (h0 : w.cell? ⟨g, 0, none⟩ = some (.int .u8 (x.toNat : Int))) (h1 : w.cell? ⟨g, 1, none⟩ = some (.int .u8 (y.toNat : Int))) : Src P 1 tx (.slice (some ⟨g, 0, none⟩) 2 c) [x, y].length (bys [x, y]) w :=
  src_new w hk g c [x, y] (fun j u hj => by
    match j, hj with
    | 0, hj => simp at hj; subst hj; exact h0
    | 1, hj => simp at hj; subst hj; exact h1)
theorem src_six (w : World) {tx e' : TypeId} (hk : P.underlying tx = some (.slice e')) (g c : Nat) (x y : UInt8) (h0 : w.cell? ⟨g, 0, none⟩ = some (.int .u8 92)) (h1 : w.cell? ⟨g, 1, none⟩ = some (.int .u8 117))
    (h2 : w.cell? ⟨g, 2, none⟩ = some (.int .u8 48)) (h3 : w.cell? ⟨g, 3, none⟩ = some (.int .u8 48)) (h4 : w.cell? ⟨g, 4, none⟩ = some (.int .u8 (x.toNat : Int))) (h5 : w.cell? ⟨g, 5, none⟩ = some (.int .u8 (y.toNat : Int))) :
    Src P 1 tx (.slice (some ⟨g, 0, none⟩) 6 c) [92, 117, 48, 48, x, y].length (bys [92, 117, 48, 48, x, y]) w :=
  src_new w hk g c [92, 117, 48, 48, x, y] (fun j u hj => by
    match j, hj with
    | 0, hj => simp at hj; subst hj; exact h0
    | 1, hj => simp at hj; subst hj; exact h1
    | 2, hj => simp at hj; subst hj; exact h2
    | 3, hj => simp at hj; subst hj; exact h3
    | 4, hj => simp at hj; subst hj; exact h4
    | 5, hj => simp at hj; subst hj; exact h5)
end

/-- Where a walk over s stands: k bytes of s are written. -/
def At (w : World) (base : Nat) (v : Value) (l : List UInt8) (k : Nat) : Prop := Own w base 5 v (esc (l.take k))

theorem at_next {w : World} {base : Nat} {v : Value} {l : List UInt8} {k : Nat} {u : UInt8} (hk : l[k]? = some u) {m : List UInt8} (hm : m = esc1 u) (h : Own w base 5 v (esc (l.take k) ++ m)) : Hid (At w base v l (k + 1)) := by
  obtain ⟨hl, he⟩ := List.getElem?_eq_some_iff.1 hk
  show Own _ _ _ _ _
  rw [take_snoc l k hl, esc_append, esc_one, he, ← hm]
  exact h

theorem bel_grow {w w1 w2 : World} {v v2 : Value} {l : List UInt8} (hb : Below w.heap.size w w1) (hO : Own w1 w.heap.size 5 v l) (o : Obj) (hG : Grow (w1.alloc o) v w2 v2) : Hid (Below w.heap.size w w2) :=
  hb.trans ((((Grow.refl w1 v).alloc o).trans hG).below hb.size hO.ge)

set_option maxHeartbeats 8000000 in
theorem esc7 (v : Value) (l : List UInt8) (base0 : Nat) (w : World) (hown : Own w base0 5 v l) (hl : l.length ≤ 1048576) :
    Calls Tryd.prog 7 #[v] w fun e w' => (∃ v', e = .returned v' ∧ Own w' w.heap.size 5 v' (esc l)) ∧ Below w.heap.size w w' := by
  obtain ⟨a, cap, rfl, hrd⟩ := hown.rd
  have HR : Hid (∀ (j : Nat) (u : UInt8), l[j]? = some u → ∃ g, a = some ⟨g, 0, none⟩ ∧ w.cell? ⟨g, j, none⟩ = some (.int .u8 (u.toNat : Int))) := hrd
  clear hrd hown
  obtain ⟨i, hi, hz0, hz1, hz2⟩ := info_parts Tryd.info5
  go_enter Tryd.func7, Tryd.ntmps7
  go_wp2_with (at_make; refine wpList_make_own w rfl _ (.tmp 7) 22 rfl w.heap.size 5 i (.int .u8 0) 1 Tryd.underlying22 hi hz0 hz1 .i64 .i64 _ l.length rfl rfl (by omega) (by rw [hz2]; omega) (by unfold maxLen; omega) (Nat.le_refl _) ?_; intro w1 hR1 hG1)
  have HA1 : Hid (At w1 w.heap.size (.slice (some ⟨w.heap.size, 0, none⟩) 0 l.length) l 0) := hR1
  have HB1 : Hid (Below w.heap.size w w1) := ⟨hG1.os, hG1.tape, hG1.output, hG1.size, fun k hk => hG1.block k (by omega) (by simp)⟩
  clear hR1 hG1 hi hz0 hz1 hz2
  go_loopw [3, 4, 5] (fun out iv _ wr => ∃ k : Nat, k ≤ l.length ∧ iv = .int .i64 k ∧ Hid (At wr w.heap.size out l k) ∧ Hid (Below w.heap.size w wr)) (fun _ iv _ _ => l.length - (intOf iv).toNat)
  case atStart => exact ⟨0, Nat.zero_le _, rfl, HA1, HB1⟩
  case round =>
    obtain ⟨k, hk, rfl, HA, HB⟩ := hrel
    clear HA1 HB1
    by_cases hlt : k < l.length
    · obtain ⟨u, hu⟩ : ∃ u, l[k]? = some u := ⟨l[k], List.getElem?_eq_getElem hlt⟩
      obtain ⟨g, rfl, hc0⟩ := HR.out k u hu
      have hc : wr.cell? ⟨g, k, none⟩ = some (.int .u8 (u.toNat : Int)) := cell_later HB.out hc0
      have HU : Hid (l[k]? = some u) := hu
      have hlen : (esc (l.take k)).length ≤ 6 * 1048576 := Nat.le_trans (esc_len _) (by simp; omega)
      have hbs := HB.out.size
      have hub : (u.toNat : Int) < 256 := by have := u.toNat_lt; omega
      clear hc0 hu
      by_cases e34 : u = 34
      · have hd : ((u.toNat : Int) == 34) = true := by rw [e34]; rfl
        have HE : Hid (u = 34) := e34
        clear e34
        go_wp2_with (at_builtin; refine wpList_append_bytes _ rfl (.tmp 26) (.tmp 27) 22 22 rfl w.heap.size 5 bt _ (esc (l.take k)) rfl (HA.out.alloc _) _ rfl [92, 34] (src_two _ Tryd.underlying22 wr.heap.size 2 92 34 (by simp) (by simp)) (by simp; omega) (by simp; omega) ?_; intro v2 w2 hO2 hG2)
        have HA' := at_next HU.out (by rw [HE.out]; rfl) hO2
        have HB' := bel_grow HB.out HA.out _ hG2
        clear hO2 hG2 HA HB
        go_wp2
        go_roundw
        case rel => exact ⟨k + 1, by omega, by go_num, HA', HB'⟩
        case measure => simp [intOf]; omega
      have hd34 : ((u.toNat : Int) == 34) = false := beq_f (k := 34) e34
      have HN34 : Hid (u ≠ 34) := e34
      clear e34
      by_cases e92 : u = 92
      · have hd : ((u.toNat : Int) == 92) = true := by rw [e92]; rfl
        have HE : Hid (u = 92) := e92
        clear e92
        go_wp2_with (at_builtin; refine wpList_append_bytes _ rfl (.tmp 32) (.tmp 33) 22 22 rfl w.heap.size 5 bt _ (esc (l.take k)) rfl (HA.out.alloc _) _ rfl [92, 92] (src_two _ Tryd.underlying22 wr.heap.size 2 92 92 (by simp) (by simp)) (by simp; omega) (by simp; omega) ?_; intro v2 w2 hO2 hG2)
        have HA' := at_next HU.out (by rw [HE.out]; rfl) hO2
        have HB' := bel_grow HB.out HA.out _ hG2
        clear hO2 hG2 HA HB
        go_wp2
        go_roundw
        case rel => exact ⟨k + 1, by omega, by go_num, HA', HB'⟩
        case measure => simp [intOf]; omega
      have hd92 : ((u.toNat : Int) == 92) = false := beq_f (k := 92) e92
      have HN92 : Hid (u ≠ 92) := e92
      clear e92
      by_cases e8 : u = 8
      · have hd : ((u.toNat : Int) == 8) = true := by rw [e8]; rfl
        have HE : Hid (u = 8) := e8
        clear e8
        go_wp2_with (at_builtin; refine wpList_append_bytes _ rfl (.tmp 38) (.tmp 39) 22 22 rfl w.heap.size 5 bt _ (esc (l.take k)) rfl (HA.out.alloc _) _ rfl [92, 98] (src_two _ Tryd.underlying22 wr.heap.size 2 92 98 (by simp) (by simp)) (by simp; omega) (by simp; omega) ?_; intro v2 w2 hO2 hG2)
        have HA' := at_next HU.out (by rw [HE.out]; rfl) hO2
        have HB' := bel_grow HB.out HA.out _ hG2
        clear hO2 hG2 HA HB
        go_wp2
        go_roundw
        case rel => exact ⟨k + 1, by omega, by go_num, HA', HB'⟩
        case measure => simp [intOf]; omega
      have hd8 : ((u.toNat : Int) == 8) = false := beq_f (k := 8) e8
      have HN8 : Hid (u ≠ 8) := e8
      clear e8
      by_cases e12 : u = 12
      · have hd : ((u.toNat : Int) == 12) = true := by rw [e12]; rfl
        have HE : Hid (u = 12) := e12
        clear e12
        go_wp2_with (at_builtin; refine wpList_append_bytes _ rfl (.tmp 44) (.tmp 45) 22 22 rfl w.heap.size 5 bt _ (esc (l.take k)) rfl (HA.out.alloc _) _ rfl [92, 102] (src_two _ Tryd.underlying22 wr.heap.size 2 92 102 (by simp) (by simp)) (by simp; omega) (by simp; omega) ?_; intro v2 w2 hO2 hG2)
        have HA' := at_next HU.out (by rw [HE.out]; rfl) hO2
        have HB' := bel_grow HB.out HA.out _ hG2
        clear hO2 hG2 HA HB
        go_wp2
        go_roundw
        case rel => exact ⟨k + 1, by omega, by go_num, HA', HB'⟩
        case measure => simp [intOf]; omega
      have hd12 : ((u.toNat : Int) == 12) = false := beq_f (k := 12) e12
      have HN12 : Hid (u ≠ 12) := e12
      clear e12
      by_cases e10 : u = 10
      · have hd : ((u.toNat : Int) == 10) = true := by rw [e10]; rfl
        have HE : Hid (u = 10) := e10
        clear e10
        go_wp2_with (at_builtin; refine wpList_append_bytes _ rfl (.tmp 50) (.tmp 51) 22 22 rfl w.heap.size 5 bt _ (esc (l.take k)) rfl (HA.out.alloc _) _ rfl [92, 110] (src_two _ Tryd.underlying22 wr.heap.size 2 92 110 (by simp) (by simp)) (by simp; omega) (by simp; omega) ?_; intro v2 w2 hO2 hG2)
        have HA' := at_next HU.out (by rw [HE.out]; rfl) hO2
        have HB' := bel_grow HB.out HA.out _ hG2
        clear hO2 hG2 HA HB
        go_wp2
        go_roundw
        case rel => exact ⟨k + 1, by omega, by go_num, HA', HB'⟩
        case measure => simp [intOf]; omega
      have hd10 : ((u.toNat : Int) == 10) = false := beq_f (k := 10) e10
      have HN10 : Hid (u ≠ 10) := e10
      clear e10
      by_cases e13 : u = 13
      · have hd : ((u.toNat : Int) == 13) = true := by rw [e13]; rfl
        have HE : Hid (u = 13) := e13
        clear e13
        go_wp2_with (at_builtin; refine wpList_append_bytes _ rfl (.tmp 56) (.tmp 57) 22 22 rfl w.heap.size 5 bt _ (esc (l.take k)) rfl (HA.out.alloc _) _ rfl [92, 114] (src_two _ Tryd.underlying22 wr.heap.size 2 92 114 (by simp) (by simp)) (by simp; omega) (by simp; omega) ?_; intro v2 w2 hO2 hG2)
        have HA' := at_next HU.out (by rw [HE.out]; rfl) hO2
        have HB' := bel_grow HB.out HA.out _ hG2
        clear hO2 hG2 HA HB
        go_wp2
        go_roundw
        case rel => exact ⟨k + 1, by omega, by go_num, HA', HB'⟩
        case measure => simp [intOf]; omega
      have hd13 : ((u.toNat : Int) == 13) = false := beq_f (k := 13) e13
      have HN13 : Hid (u ≠ 13) := e13
      clear e13
      by_cases e9 : u = 9
      · have hd : ((u.toNat : Int) == 9) = true := by rw [e9]; rfl
        have HE : Hid (u = 9) := e9
        clear e9
        go_wp2_with (at_builtin; refine wpList_append_bytes _ rfl (.tmp 62) (.tmp 63) 22 22 rfl w.heap.size 5 bt _ (esc (l.take k)) rfl (HA.out.alloc _) _ rfl [92, 116] (src_two _ Tryd.underlying22 wr.heap.size 2 92 116 (by simp) (by simp)) (by simp; omega) (by simp; omega) ?_; intro v2 w2 hO2 hG2)
        have HA' := at_next HU.out (by rw [HE.out]; rfl) hO2
        have HB' := bel_grow HB.out HA.out _ hG2
        clear hO2 hG2 HA HB
        go_wp2
        go_roundw
        case rel => exact ⟨k + 1, by omega, by go_num, HA', HB'⟩
        case measure => simp [intOf]; omega
      have hd9 : ((u.toNat : Int) == 9) = false := beq_f (k := 9) e9
      have HN9 : Hid (u ≠ 9) := e9
      clear e9
      by_cases e32 : u.toNat < 32
      · have hd : (u.toNat : Int) < 32 := by omega
        have HE : Hid (u.toNat < 32) := e32
        clear e32
        go_wp2_with fail
        refine (hex12 _ _ (by omega) (by omega)).mono ?_
        rintro e w' ⟨rfl, hw⟩
        rw [hw, show ((u.toNat : Int) / 16).toNat = u.toNat / 16 by omega]
        clear hw
        go_wp2_with fail
        refine (hex12 _ _ (by omega) (by omega)).mono ?_
        rintro e w' ⟨rfl, hw⟩
        rw [hw, show ((u.toNat : Int) % 16).toNat = u.toNat % 16 by omega]
        clear hw
        obtain ⟨x, hx⟩ : ∃ x, x = hexd (u.toNat / 16) := ⟨_, rfl⟩
        obtain ⟨y, hy⟩ : ∃ y, y = hexd (u.toNat % 16) := ⟨_, rfl⟩
        rw [← hx, ← hy]
        have HX : Hid (x = hexd (u.toNat / 16)) := hx
        have HY : Hid (y = hexd (u.toNat % 16)) := hy
        clear hx hy
        go_wp2_with (at_builtin; refine wpList_append_bytes _ rfl (.tmp 68) (.tmp 75) 22 22 rfl w.heap.size 5 bt _ (esc (l.take k)) rfl (HA.out.alloc _) _ rfl [92, 117, 48, 48, x, y] (src_six _ Tryd.underlying22 wr.heap.size 6 x y (by simp) (by simp) (by simp) (by simp) (by simp) (by simp)) (by simp; omega) (by simp; omega) ?_; intro v2 w2 hO2 hG2)
        have HA' := at_next HU.out (by unfold esc1; rw [if_neg HN34.out, if_neg HN92.out, if_neg HN8.out, if_neg HN12.out, if_neg HN10.out, if_neg HN13.out, if_neg HN9.out, if_pos HE.out]; rw [HX.out, HY.out]) hO2
        have HB' := bel_grow HB.out HA.out _ hG2
        clear hO2 hG2 HA HB
        go_wp2
        go_roundw
        case rel => exact ⟨k + 1, by omega, by go_num, HA', HB'⟩
        case measure => simp [intOf]; omega
      · have hd : ¬ (u.toNat : Int) < 32 := by omega
        have HE : Hid (¬ u.toNat < 32) := e32
        clear e32
        go_wp2_with (at_builtin; refine wpList_append_bytes _ rfl (.tmp 19) (.tmp 21) 22 22 rfl w.heap.size 5 bt _ (esc (l.take k)) rfl (HA.out.alloc _) _ rfl [u] (src_one _ Tryd.underlying22 wr.heap.size 1 u (by simp)) (by simp; omega) (by simp; omega) ?_; intro v2 w2 hO2 hG2)
        have HA' := at_next HU.out (by unfold esc1; rw [if_neg HN34.out, if_neg HN92.out, if_neg HN8.out, if_neg HN12.out, if_neg HN10.out, if_neg HN13.out, if_neg HN9.out, if_neg HE.out]) hO2
        have HB' := bel_grow HB.out HA.out _ hG2
        clear hO2 hG2 HA HB
        go_wp2
        go_roundw
        case rel => exact ⟨k + 1, by omega, by go_num, HA', HB'⟩
        case measure => simp [intOf]; omega
    · have hkl : k = l.length := by omega
      have HF : Hid (Own wr w.heap.size 5 u3 (esc l)) := by
        have := HA.out
        unfold At at this
        rw [hkl, List.take_length] at this
        exact this
      go_wp2
      go_ret
      exact ⟨⟨_, rfl, HF.out⟩, HB.out⟩
end Go.Proofs.Qxb6606064aDoor
