/-
  zzCopyBytes, zzEqualBytes, zzHexLower, the bounds' test and bytes.IndexByte, over this seat's dump.
-/
import Derived.Test.Qxb6606064aDoorProg
import Derived.Test.Qxb6606064aDoorKit
import Derived.WalkSpells
import Derived.WalkLawsBesides
import Derived.BigQuiet
import Derived.Laws.CopyOwn
import Derived.Deep.OwnRows
import Derived.Lib.SliceRun
import Derived.Lib.BytesEntry
import Derived.Deep.LoopGhost
import Derived.Deep.Cut
import Derived.OpenShut
namespace Go.Proofs.Qxb6606064aDoor
open Go.RowKit

theorem Tryd.info5 : (Tryd.prog.info? 5).map (fun i => (i.zero, i.size, i.bytes)) = some (some (.int .u8 0), 1, 1) := by kernel_rfl
theorem bt : BT Tryd.prog 22 5 := by
  refine ⟨Tryd.underlying22, ?_⟩
  obtain ⟨i, h1, h2, h3, h4⟩ := info_parts Tryd.info5
  exact ⟨i, _, h1, h2, h3, h4, rfl⟩

/-- A slice of bytes that can be read: nil, or its cells. -/
def Reads (w : World) (v : Value) (l : List UInt8) : Prop :=
  (v = .slice none 0 0 ∧ l = []) ∨ ∃ x cap, v = .slice (some x) l.length cap ∧ ∀ j u, (bys l)[j]? = some u → w.cell? (x.add j) = some u

theorem Own.reads {w : World} {base : Nat} {e : TypeId} {v : Value} {l : List UInt8} (h : Own w base e v l) : Reads w v l := by
  rcases h.2 with ⟨rfl, h0⟩ | ⟨g, cap, cur, rfl, _⟩
  · exact .inl ⟨rfl, List.eq_nil_of_length_eq_zero h0⟩
  · exact .inr ⟨_, cap, rfl, World.ownsRow.cells h rfl⟩

theorem own_copied (w : World) (e : TypeId) (z : Value) (l : List UInt8) (h : l.length ≤ maxLen) :
    Own ((w.alloc (.cells (madeCells #[z] l.length) e)).setRow w.heap.size (bys l ++ (madeCells #[z] l.length).toList.drop (bys l).length).toArray) w.heap.size e (.slice (some ⟨w.heap.size, 0, none⟩) l.length l.length) l := by
  refine ⟨by rw [bys_length, Nat.mul_one], .inr ⟨w.heap.size, l.length, _, rfl, Nat.le_refl _, setRow_heap _ w.heap.size (madeCells #[z] l.length) _ e _ (heap_alloc_new w _), Nat.le_refl _, h, ?_, ?_⟩⟩
  · simp [bys_length, size_madeCells]
  · have : List.drop (bys l).length (madeCells #[z] l.length).toList = [] := List.drop_eq_nil_of_le (by simp [bys_length, size_madeCells])
    simp only [this, List.append_nil, Nat.mul_one]
    rw [← bys_length l, List.take_length]

theorem below_copied (w : World) (e : TypeId) (z : Value) (n : Nat) (c : Array Value) : Below w.heap.size w ((w.alloc (.cells (madeCells #[z] n) e)).setRow w.heap.size c) :=
  below_setRow ((Below.refl _ _).alloc (Nat.le_refl _) _) (Nat.le_refl _) c

theorem Own.below {w w' : World} {base : Nat} {e : TypeId} {v : Value} {l : List UInt8} (h : Own w base e v l) (hb : Below w.heap.size w w') : Own w' base e v l :=
  World.ownsRow.kept (row := none) h ⟨hb.os, hb.tape, hb.output, hb.size, fun k hk _ => hb.block k hk⟩ (by
    cases hv : v.ownBlock
    · exact .inl rfl
    · exact .inr (by simp))

/-- How an owned slice is read. -/
theorem Own.rd {w : World} {base : Nat} {e : TypeId} {v : Value} {l : List UInt8} (h : Own w base e v l) :
    ∃ a cap, v = .slice a l.length cap ∧ ∀ (j : Nat) (u : UInt8), l[j]? = some u → ∃ g, a = some ⟨g, 0, none⟩ ∧ w.cell? ⟨g, j, none⟩ = some (.int .u8 (u.toNat : Int)) := by
  obtain ⟨a, cap, hv, _⟩ := h.shape
  refine ⟨a, cap, hv, fun j u hj => ?_⟩
  obtain ⟨hl, he⟩ := List.getElem?_eq_some_iff.1 hj
  obtain ⟨g, c, hv2, hc⟩ := h.cell hl
  rw [hv] at hv2
  injection hv2 with h1 h2 h3
  exact ⟨g, h1, by rw [hc, he]⟩

/-- An owned slice as what is appended. -/
theorem src_own {w : World} {base : Nat} {e tx e' : TypeId} {u : Value} {m : List UInt8} (hk : Tryd.prog.underlying tx = some (.slice e')) (h : Own w base e u m) : Src Tryd.prog 1 tx u m.length (bys m) w := by
  rcases h.2 with ⟨rfl, h0⟩ | ⟨g, cap, cur, rfl, _⟩
  · have : m = [] := List.eq_nil_of_length_eq_zero h0
    subst this
    exact Src.ofNil w hk 0
  · exact Src.ofSlice w hk _ _ cap (bys m) (by rw [bys_length, Nat.mul_one]) (World.ownsRow.cells h rfl) bys_one

/-- What the frame tells of a slice of bytes that came in, in this text's words. -/
theorem reads_of_row (w : World) (a : Option Addr) (len cap : Nat) (zs : List Int)
    (h : (a = none ∧ len = 0 ∧ cap = 0 ∧ zs = []) ∨ ∃ x, a = some x ∧ len ≤ cap ∧ cap ≤ maxLen ∧ zs.length = cap ∧ (∀ i, i < zs.length → w.cell? (x.add i) = some (.int .u8 (zs.getD i 0))) ∧ ∀ n ∈ zs, (Lit.int .u8 n).wf = true) :
    ∃ l : List UInt8, l.length = len ∧ len ≤ maxLen ∧ Reads w (.slice a len cap) l := by
  rcases h with ⟨rfl, rfl, rfl, rfl⟩ | ⟨x, rfl, h1, h2, h3, h4, h5⟩
  · exact ⟨[], rfl, Nat.zero_le _, .inl ⟨rfl, rfl⟩⟩
  · have hl : ((zs.take len).map (fun n => UInt8.ofNat n.toNat)).length = len := by simp; omega
    refine ⟨(zs.take len).map (fun n => UInt8.ofNat n.toNat), hl, Nat.le_trans h1 h2, .inr ⟨x, cap, by rw [hl], fun j u hj => ?_⟩⟩
    unfold bys at hj
    rw [List.getElem?_map] at hj
    obtain ⟨b, hb, rfl⟩ := Option.map_eq_some_iff.1 hj
    rw [List.getElem?_map] at hb
    obtain ⟨n, hn, rfl⟩ := Option.map_eq_some_iff.1 hb
    rw [List.getElem?_take] at hn
    split at hn
    · have hz := List.getElem?_eq_some_iff.1 hn
      obtain ⟨hz1, hz2⟩ := hz
      rw [h4 j hz1]
      have hw := h5 n (by rw [← hz2]; exact List.getElem_mem _)
      have hb := bounds_u8 hw
      have e : zs.getD j 0 = n := by rw [List.getD_eq_getElem?_getD, hn]; rfl
      rw [e]
      have e2 : ((UInt8.ofNat n.toNat).toNat : Int) = n := by
        simp
        omega
      rw [e2]
    · cases hn

set_option maxHeartbeats 1000000 in
theorem copy6 (v : Value) (l : List UInt8) (w : World) (hr : Reads w v l) (hl : l.length ≤ 1048576) :
    Calls Tryd.prog 6 #[v] w fun e w' => (∃ v', e = .returned v' ∧ Own w' w.heap.size 5 v' l) ∧ Below w.heap.size w w' := by
  have q22 : ∀ (w : World) (a : Option Addr) (n c n' c' : Nat), (binOp .eql 22 (.slice a n c) (.slice none n' c')).run Tryd.prog w = .ok (.bool a.isNone) w := fun w a n c n' c' => Lib.run_eql_slice_nil w 22 5 a n c n' c' Tryd.underlying22
  rcases hr with ⟨rfl, rfl⟩ | ⟨x, cap, rfl, hc⟩
  · go_enter Tryd.func6, Tryd.ntmps6
    go_wp2
    go_ret
    exact ⟨⟨_, rfl, World.ownsRow_nil _ _ _ _⟩, Below.refl _ _⟩
  · obtain ⟨i, hi, hz0, hz1, hz2⟩ := info_parts Tryd.info5
    have HC : Hid (∀ j u, (bys l)[j]? = some u → w.cell? (x.add j) = some u) := hc
    clear hc
    go_enter Tryd.func6, Tryd.ntmps6
    go_wp2_with (first
      | (at_make; refine wpList_make_row _ rfl _ _ 22 rfl 5 i (.int .u8 0) Tryd.underlying22 hi hz0 hz1 rfl .i64 .i64 l.length rfl rfl (by rw [hz2]; omega) (by omega) ?_)
      | (refine wpList_copy_own rfl (.tmp 9) (.tmp 10) 22 22 rfl 5 Tryd.underlying22 (by kernel_rfl) w.heap.size 0 l.length l.length x l.length cap rfl rfl (madeCells #[.int .u8 0] l.length) 5 (heap_alloc_new w _) (bys l) (by rw [bys_length]; simp) (fun j u hj => cell_later ((Below.refl _ _).alloc (Nat.le_refl _) _) (HC.out j u hj)) (by simp [bys_length, size_madeCells]) bys_one ?_))
    go_wp2
    go_ret
    exact ⟨⟨_, rfl, own_copied w 5 _ l (by unfold maxLen; omega)⟩, below_copied w 5 _ _ _⟩

theorem zzBytes10 (a0 a1 a2 : Option Addr) (n0 n1 n2 c0 c1 c2 : Nat) (w : World) (h0 : n0 ≤ maxLen) (h1 : n1 ≤ maxLen) (h2 : n2 ≤ maxLen) :
    Calls Tryd.prog 10 #[.slice a0 n0 c0, .slice a1 n1 c1, .slice a2 n2 c2] w fun e w' => e = .returned (.bool (decide (n0 + n1 + n2 ≤ 1048576))) ∧ w' = w := by
  unfold maxLen at h0 h1 h2
  by_cases h : n0 + n1 + n2 ≤ 1048576
  · rw [decide_eq_true h]
    go_enter Tryd.func10, Tryd.ntmps10
    go_wp2
    go_ret
    exact ⟨rfl, rfl⟩
  · rw [decide_eq_false h]
    by_cases g0 : n0 ≤ 1048576
    · by_cases g1 : n1 ≤ 1048576
      · by_cases g01 : n0 + n1 ≤ 1048576
        · by_cases g2 : n2 ≤ 1048576
          all_goals
            go_enter Tryd.func10, Tryd.ntmps10
            go_wp2
            go_ret
            exact ⟨rfl, rfl⟩
        · go_enter Tryd.func10, Tryd.ntmps10
          go_wp2
          go_ret
          exact ⟨rfl, rfl⟩
      · go_enter Tryd.func10, Tryd.ntmps10
        go_wp2
        go_ret
        exact ⟨rfl, rfl⟩
    · go_enter Tryd.func10, Tryd.ntmps10
      go_wp2
      go_ret
      exact ⟨rfl, rfl⟩

/-- Bytes that lie from an offset on. -/
def Lies (w : World) (a : Option Addr) (o : Nat) (l : List UInt8) : Prop :=
  ∀ (j : Nat) (u : UInt8), l[j]? = some u → ∃ g, a = some ⟨g, o, none⟩ ∧ w.cell? ⟨g, o + j, none⟩ = some (.int .u8 (u.toNat : Int))

set_option maxHeartbeats 1000000 in
theorem equal9 (a1 a2 : Option Addr) (o1 o2 cap1 cap2 : Nat) (L : List UInt8) (w : World) (h1 : Lies w a1 o1 L) (h2 : Lies w a2 o2 L) (hl : L.length ≤ 1099511627776) :
    Calls Tryd.prog 9 #[.slice a1 L.length cap1, .slice a2 L.length cap2] w fun e w' => e = .returned (.bool true) ∧ ∃ n, w' = w.drewN n := by
  have HR1 : Hid (Lies w a1 o1 L) := h1
  have HR2 : Hid (Lies w a2 o2 L) := h2
  clear h1 h2
  have hne : ((L.length : Int) != (L.length : Int)) = false := by simp
  go_enter Tryd.func9, Tryd.ntmps9
  go_wp2
  go_loopw [4, 5] (fun _ i wr => ∃ i1 n : Nat, i1 ≤ L.length ∧ i = .int .i64 i1 ∧ wr = w.drewN n) (fun _ i _ => L.length - (intOf i).toNat)
  case atStart => exact ⟨0, 0, Nat.zero_le _, rfl, rfl⟩
  case round =>
    obtain ⟨i1, n, hi1, rfl, rfl⟩ := hrel
    by_cases hl1 : i1 < L.length
    · obtain ⟨u, hu⟩ : ∃ u, L[i1]? = some u := ⟨L[i1], List.getElem?_eq_getElem hl1⟩
      obtain ⟨g1, rfl, hc1⟩ := HR1.out i1 u hu
      obtain ⟨g2, rfl, hc2⟩ := HR2.out i1 u hu
      clear hu
      go_wp2
      go_quiet (fail)
      go_wp2
      go_roundw
      case rel => exact ⟨i1 + 1, _, by omega, by go_num, rfl⟩
      case measure => simp [intOf]; omega
    · go_wp2
      go_ret
      exact ⟨rfl, _, rfl⟩

theorem bytesOf_nats (l : List UInt8) : Lib.bytesOf (l.map fun b => (b.toNat : Int)) = l := by
  unfold Lib.bytesOf
  rw [List.map_map]
  conv => rhs; rw [← List.map_id l]
  apply List.map_congr_left
  intro b _
  simp

set_option maxHeartbeats 1000000 in
set_option maxRecDepth 100000 in
theorem index19 (g o c : Nat) (l : List UInt8) (w : World) (hc : ∀ (j : Nat) (u : UInt8), l[j]? = some u → w.cell? ⟨g, o + j, none⟩ = some (.int .u8 (u.toNat : Int))) :
    Calls Tryd.prog 19 #[.slice (some ⟨g, o, none⟩) l.length c, .int .u8 34] w fun e w' => e = .returned (.int .i64 (Lib.indexByte l 34)) ∧ w' = w := by
  have hx := Lib.run_indexByteSlice (P := Tryd.prog) w g o l.length c (l.map fun b => (b.toNat : Int)) (by simp) (fun i hi => by
    rw [hc i l[i] (List.getElem?_eq_getElem hi), List.getD_eq_getElem?_getD, List.getElem?_map, List.getElem?_eq_getElem hi]
    rfl) 34
  rw [bytesOf_nats] at hx
  clear hc
  go_enter Tryd.func19, Tryd.ntmps19
  go_wp2
  rw [run_callFunc_extern Tryd.func26 (by kernel_rfl) (by kernel_rfl) (by kernel_rfl) (e := Extern.BytealgIndexByte.indexByte) (by kernel_rfl), hx]
  simp only [Result.andThen]
  rw [Oper.upon_value]
  go_wp2
  go_ret
  exact ⟨rfl, rfl⟩
end Go.Proofs.Qxb6606064aDoor
