/-
  Byte slices of the call's own: what append makes of them, of whatever is appended. No program of ours in sight.
-/
import Derived.Deep.AppendSrc
import Derived.Laws.AppendOwn
import Derived.Below
import Derived.WalkKit
import Derived.Deep.QuietTactic
import Derived.Lib.Strings
namespace Go.Proofs.Qxb6606064aDoor
open Go.RowKit

/-- Bytes as cells. -/
def bys (l : List UInt8) : List Value := l.map fun b => Value.int .u8 (b.toNat : Int)

theorem bys_append (a b : List UInt8) : bys (a ++ b) = bys a ++ bys b := List.map_append
theorem bys_length (a : List UInt8) : (bys a).length = a.length := List.length_map _
theorem bys_one {l : List UInt8} : ∀ u ∈ bys l, u.oneCell' = true := by
  intro u hu
  obtain ⟨_, _, rfl⟩ := List.mem_map.1 hu
  rfl
theorem bys_string (s : ByteArray) : byteCells s = bys s.data.toList := rfl

section
variable {P : Program}

/-- append onto a row of the call's own, of whatever source. -/
theorem run_append_own_src (w : World) (base : Nat) (t tx ty e : TypeId) (i : TypeInfo) (z : Value) (ht : P.underlying t = some (.slice e)) (hi : P.info? e = some i) (hz : i.zero = some z)
    (hsize : i.size = 1) (hby : i.bytes = 1) (hzs : z.cells.size = 1)
    (v : Value) (n : Nat) (xs : List Value) (hown : w.ownsRow base e 1 v n xs)
    (x : Value) (m : Nat) (news : List Value) (hs : Src P 1 tx x m news w)
    (hbytes : n + m ≤ 140737488355328) (hbase : base ≤ w.heap.size) :
    ∃ v' w', (Builtin.append_ #[t, tx] ty #[v, x]).run P w = .ok v' w' ∧ w'.ownsRow base e 1 v' (n + m) (xs ++ news) ∧ w.grownBy w' v.ownBlock ∧ (∀ k, v'.ownBlock = some k → v.ownBlock = some k ∨ w.heap.size ≤ k) := by
  have h63 : n + m ≤ maxLen := by unfold maxLen; omega
  have hl := hs.newsLen
  have hlen : (xs ++ news).length = (n + m) * 1 := by rw [List.length_append, hown.1, hl, Nat.add_mul]
  have hs' : Src P i.size tx x m news w := by rw [hsize]; exact hs
  have grown : ∀ (old : Nat), old < n + m → ∀ (row : Option Nat),
      (w.drew.alloc (.cells ((xs ++ news).toArray ++ Builtin.zeroCells z.cells (grownCap w (n + m) old e - (n + m))) e)).ownsRow base e 1
        (.slice (some ⟨w.heap.size, 0, none⟩) (n + m) (grownCap w (n + m) old e)) (n + m) (xs ++ news) ∧
      w.grownBy (w.drew.alloc (.cells ((xs ++ news).toArray ++ Builtin.zeroCells z.cells (grownCap w (n + m) old e - (n + m))) e)) row := by
    intro old ho row
    have hge := grownCap_ge w (n + m) old e
    have hcm : grownCap w (n + m) old e ≤ maxLen := grownCap_le_maxLen w (n + m) old e h63
    refine ⟨⟨hlen, .inr ⟨w.heap.size, _, _, rfl, hbase, _root_.Go.heap_alloc_new w.drew _, hge, hcm, ?_, ?_⟩⟩, ⟨rfl, rfl, rfl, by simp, fun k hk _ => Below.heap_alloc w.drew _ k hk⟩⟩
    · simp only [Array.size_append, List.size_toArray, size_zeroCells, hzs, hlen]
      omega
    · simp only [Array.toList_append]
      rw [← hlen]
      exact List.take_left
  rcases hown.2 with ⟨rfl, rfl⟩ | ⟨g, cap, cur, rfl, hbg, hg, hnc, hcm, hcs, htake⟩
  · have hx : xs = [] := List.eq_nil_of_length_eq_zero (by simpa using hown.1)
    subst hx
    by_cases hm : m = 0
    · subst hm
      have hn : news = [] := List.eq_nil_of_length_eq_zero (by simpa using hl)
      subst hn
      refine ⟨.slice none 0 0, w, ?_, World.ownsRow_nil w base e 1, ⟨rfl, rfl, rfl, Nat.le_refl _, fun _ _ _ => rfl⟩, fun _ h => .inl h⟩
      have hc := hs'.cells
      rcases hs.kind with ⟨e', hk⟩ | hk <;>
        simp [Builtin.append_, run_underlying ht, run_underlying hk, sizeOf, typeInfo, hi, hs.len, hc]
    · have hr := run_append_grow_src (P := P) w t tx ty e i z ht hi hz none 0 0 [] (by simp [Builtin.firstCells]) x m news hs' (by omega) (by omega) (growslice_fits (by omega) (by rw [hby]; omega))
      have hgr := grown 0 (by omega) (Value.ownBlock (.slice none 0 0))
      exact ⟨_, _, hr, hgr.1, hgr.2, fun k h => .inr (by simp [Value.ownBlock] at h; omega)⟩
  · by_cases hroom : n + m ≤ cap
    · have hfit : n * i.size + news.length ≤ cur.size := by rw [hl, hcs, hsize, ← Nat.add_mul]; exact Nat.mul_le_mul_right _ hroom
      have hst := run_storeCells_at P g (n * i.size) e news 0 cur w hg (by simpa using hfit) hs.one
      simp only [Nat.add_zero] at hst
      have hr : (Builtin.append_ #[t, tx] ty #[.slice (some ⟨g, 0, none⟩) n cap, x]).run P w =
          .ok (.slice (some ⟨g, 0, none⟩) (n + m) cap) (w.setRow g (cur.toList.take (n * i.size) ++ news ++ cur.toList.drop (n * i.size + news.length)).toArray) := by
        rcases hs.kind with ⟨e', hk⟩ | hk <;> simp [Builtin.append_, run_underlying ht, run_underlying hk, sizeOf, typeInfo, hi, hs.len, hroom, hs'.cells, Addr.add_lit, hst]
      refine ⟨_, _, hr, ⟨hlen, .inr ⟨g, cap, _, rfl, hbg, setRow_heap w g cur _ e _ hg, hroom, hcm, ?_, ?_⟩⟩, ⟨rfl, rfl, rfl, by simp, fun k _ hk => setRow_other w g k _ (fun e => hk (by simp [Value.ownBlock, e]))⟩, fun _ h => .inl h⟩
      · simp only [List.size_toArray, List.length_append, List.length_take, List.length_drop, Array.length_toList]
        omega
      · rw [hsize, htake, ← hlen]
        exact List.take_left
    · have holds : ∀ j u, xs[j]? = some u → w.cell? ((⟨g, 0, none⟩ : Addr).add j) = some u := hown.cells (g := g) rfl
      have hold := run_firstCells_some (P := P) w.drew 1 n ⟨g, 0, none⟩ n cap xs hown.1 (by simpa using holds)
      have hr := run_append_grow_src (P := P) w t tx ty e i z ht hi hz (some ⟨g, 0, none⟩) n cap xs (by rw [hsize]; exact hold) x m news hs' (by omega) (by unfold maxLen at h63; omega) (growslice_fits (by omega) (by rw [hby]; omega))
      have hgr := grown cap (by omega) (Value.ownBlock (.slice (some ⟨g, 0, none⟩) n cap))
      exact ⟨_, _, hr, hgr.1, hgr.2, fun k h => .inr (by simp [Value.ownBlock] at h; omega)⟩
end

/-- The slice value v is the call's own (its block from 'base' on) and holds the bytes l. -/
def Own (w : World) (base : Nat) (e : TypeId) (v : Value) (l : List UInt8) : Prop := w.ownsRow base e 1 v l.length (bys l)

/-- From w to w' at most v's own row was written; v' lies there or in new memory. -/
structure Grow (w : World) (v : Value) (w' : World) (v' : Value) : Prop where
  by_ : w.grownBy w' v.ownBlock
  new : ∀ k, v'.ownBlock = some k → v.ownBlock = some k ∨ w.heap.size ≤ k

theorem Grow.refl (w : World) (v : Value) : Grow w v w v := ⟨⟨rfl, rfl, rfl, Nat.le_refl _, fun _ _ _ => rfl⟩, fun _ h => .inl h⟩
theorem Grow.trans {w w1 w2 : World} {v v1 v2 : Value} (h : Grow w v w1 v1) (k : Grow w1 v1 w2 v2) : Grow w v w2 v2 := by
  refine ⟨⟨k.by_.os.trans h.by_.os, k.by_.tape.trans h.by_.tape, k.by_.output.trans h.by_.output, Nat.le_trans h.by_.size k.by_.size, fun i hi hne => ?_⟩, fun i hi => ?_⟩
  · rw [k.by_.block i (Nat.lt_of_lt_of_le hi h.by_.size) (fun e => ?_), h.by_.block i hi hne]
    rcases h.new i e.symm with h1 | h1
    · exact hne h1.symm
    · omega
  · rcases k.new i hi with h1 | h1
    · exact h.new i h1
    · exact .inr (Nat.le_trans h.by_.size h1)
theorem Grow.alloc {w w1 : World} {v v1 : Value} (h : Grow w v w1 v1) (o : Obj) : Grow w v (w1.alloc o) v1 :=
  h.trans ⟨World.grownBy_alloc w1 o _, fun _ h => .inl h⟩
theorem Grow.drew {w w1 : World} {v v1 : Value} (h : Grow w v w1 v1) : Grow w v w1.drew v1 := ⟨⟨h.by_.os, h.by_.tape, h.by_.output, h.by_.size, h.by_.block⟩, h.new⟩
theorem Grow.drewN {w w1 : World} {v v1 : Value} (h : Grow w v w1 v1) (n : Nat) : Grow w v (w1.drewN n) v1 := ⟨⟨h.by_.os, h.by_.tape, h.by_.output, h.by_.size, h.by_.block⟩, h.new⟩
theorem Grow.below {w w1 : World} {v v1 : Value} {B : Nat} (h : Grow w v w1 v1) (hB : B ≤ w.heap.size) (hv : ∀ k, v.ownBlock = some k → B ≤ k) : Below B w w1 :=
  ⟨h.by_.os, h.by_.tape, h.by_.output, h.by_.size, fun k hk => h.by_.block k (by omega) (fun e => by have := hv k e.symm; omega)⟩

theorem Own.alloc {w : World} {base : Nat} {e : TypeId} {v : Value} {l : List UInt8} (h : Own w base e v l) (o : Obj) : Own (w.alloc o) base e v l := World.ownsRow.alloc h o
theorem Own.drew {w : World} {base : Nat} {e : TypeId} {v : Value} {l : List UInt8} (h : Own w base e v l) : Own w.drew base e v l := h
theorem Own.drewN {w : World} {base : Nat} {e : TypeId} {v : Value} {l : List UInt8} (h : Own w base e v l) (n : Nat) : Own (w.drewN n) base e v l := h
theorem Own.ge {w : World} {base : Nat} {e : TypeId} {v : Value} {l : List UInt8} (h : Own w base e v l) : ∀ k, v.ownBlock = some k → base ≤ k := fun k hk => (World.ownsRow.lt h k hk).1
theorem Own.lt {w : World} {base : Nat} {e : TypeId} {v : Value} {l : List UInt8} (h : Own w base e v l) : ∀ k, v.ownBlock = some k → k < w.heap.size := fun k hk => (World.ownsRow.lt h k hk).2

/-- The value of an owned slice. -/
theorem Own.shape {w : World} {base : Nat} {e : TypeId} {v : Value} {l : List UInt8} (h : Own w base e v l) : ∃ a cap, v = .slice a l.length cap ∧ l.length ≤ cap := by
  rcases h.2 with ⟨rfl, h0⟩ | ⟨g, cap, cur, rfl, _, _, h1, _⟩
  · exact ⟨none, 0, by rw [h0], by omega⟩
  · exact ⟨_, cap, rfl, h1⟩

/-- Another owned slice is kept by what is done to v. -/
theorem Own.kept {w w' : World} {base : Nat} {e : TypeId} {u v v' : Value} {l : List UInt8} (h : Own w base e u l) (g : Grow w v w' v') (hne : u.ownBlock = none ∨ u.ownBlock ≠ v.ownBlock) : Own w' base e u l :=
  World.ownsRow.kept h g.by_ hne

/-- Each byte of an owned slice, by its cell. -/
theorem Own.cell {w : World} {base : Nat} {e : TypeId} {v : Value} {l : List UInt8} (h : Own w base e v l) {j : Nat} (hj : j < l.length) : ∃ g cap, v = .slice (some ⟨g, 0, none⟩) l.length cap ∧ w.cell? ⟨g, j, none⟩ = some (.int .u8 (l[j].toNat : Int)) := by
  rcases h.2 with ⟨rfl, h0⟩ | ⟨g, cap, cur, rfl, _, _, h1, _⟩
  · omega
  · refine ⟨g, cap, rfl, ?_⟩
    have := World.ownsRow.cells h (g := g) rfl j (.int .u8 (l[j].toNat : Int)) (by simp [bys, hj])
    simpa [Addr.add_lit] using this

/-- The types of a byte slice, told at once. -/
structure BT (P : Program) (t e : TypeId) : Prop where
  ht : P.underlying t = some (.slice e)
  info : ∃ i z, P.info? e = some i ∧ i.zero = some z ∧ i.size = 1 ∧ i.bytes = 1 ∧ z.cells.size = 1

section
variable {P : Program}

theorem run_append_bytes (w : World) (base : Nat) (t tx ty e : TypeId) (T : BT P t e) (v : Value) (l : List UInt8) (hown : Own w base e v l) (x : Value) (m : List UInt8) (hs : Src P 1 tx x m.length (bys m) w)
    (hb : l.length + m.length ≤ 140737488355328) (hbase : base ≤ w.heap.size) :
    ∃ v' w', (Builtin.append_ #[t, tx] ty #[v, x]).run P w = .ok v' w' ∧ Own w' base e v' (l ++ m) ∧ Grow w v w' v' := by
  obtain ⟨i, z, h1, h2, h3, h4, h5⟩ := T.info
  obtain ⟨v', w', hr, ho, hg, hn⟩ := run_append_own_src w base t tx ty e i z T.ht h1 h2 h3 h4 h5 v l.length (bys l) hown x m.length (bys m) hs hb hbase
  refine ⟨v', w', hr, ?_, ⟨hg, hn⟩⟩
  unfold Own
  rw [List.length_append, bys_append]
  exact ho

theorem wp_append_bytes {o : Oper} {a : Act} {K : Act → World → Prop} {Q : Exit → Act → World → Prop} (w : World) (s x : Operand) (t tx : TypeId)
    (ho : o.op = .call { callee := .builtin .append, args := #[s, x], argTypes := #[t, tx] }) (base : Nat) (e : TypeId) (T : BT P t e)
    (v : Value) (l : List UInt8) (hs : a.eval s = v) (hown : Own w base e v l) (xv : Value) (hx : a.eval x = xv) (m : List UInt8) (hsrc : Src P 1 tx xv m.length (bys m) w)
    (hb : l.length + m.length ≤ 140737488355328) (hbase : base ≤ w.heap.size)
    (h : ∀ v' w', Own w' base e v' (l ++ m) → Grow w v w' v' → K (a.put o.dst v') w') : o.wp P a w K Q := by
  obtain ⟨v', w', hr, h2, h3⟩ := run_append_bytes (P := P) w base t tx o.type e T v l hown xv m hsrc hb hbase
  unfold Oper.wp execOp
  simp only [ho, resolve, invoke, builtin, Sem.run_bind, Sem.run_pure, Result.andThen_ok, List.map_toArray, List.map_cons, List.map_nil, hs, hx, hr]
  exact h v' w' h2 h3

theorem wpList_append_bytes {ops : Array Oper} {rest : List Oper} {o : Oper} {a : Act} {Q : Exit → Act → World → Prop} (w : World) (hgd : o.guard = none) (s x : Operand) (t tx : TypeId)
    (ho : o.op = .call { callee := .builtin .append, args := #[s, x], argTypes := #[t, tx] }) (base : Nat) (e : TypeId) (T : BT P t e)
    (v : Value) (l : List UInt8) (hs : a.eval s = v) (hown : Own w base e v l) (xv : Value) (hx : a.eval x = xv) (m : List UInt8) (hsrc : Src P 1 tx xv m.length (bys m) w)
    (hb : l.length + m.length ≤ 140737488355328) (hbase : base ≤ w.heap.size)
    (h : ∀ v' w', Own w' base e v' (l ++ m) → Grow w v w' v' → wpList P ops Q rest (a.put o.dst v') w') : wpList P ops Q (o :: rest) a w :=
  wpList_plain hgd fun _ hK => wp_append_bytes w s x t tx ho base e T v l hs hown xv hx m hsrc hb hbase fun v' w' h2 h3 => hK _ _ (h v' w' h2 h3)

/-- The same, as one step of a region that draws. -/
theorem step_append_bytes {ops : Array Oper} {o : Oper} {a : Act} {K : Act → World → Prop} {Q : Exit → Act → World → Prop} {E : Prop} (w : World) (hgd : o.guard = none) (s x : Operand) (t tx : TypeId)
    (ho : o.op = .call { callee := .builtin .append, args := #[s, x], argTypes := #[t, tx] }) (base : Nat) (e : TypeId) (T : BT P t e)
    (v : Value) (l : List UInt8) (hs : a.eval s = v) (hown : Own w base e v l) (xv : Value) (hx : a.eval x = xv) (m : List UInt8) (hsrc : Src P 1 tx xv m.length (bys m) w)
    (hb : l.length + m.length ≤ 140737488355328) (hbase : base ≤ w.heap.size)
    (h : ∀ v' w', Own w' base e v' (l ++ m) → Grow w v w' v' → K (a.put o.dst v') w') :
    if Region.wanted o (yielded ops a.tmps) = true then Oper.wp P o a w K Q else E := by
  have hw : Region.wanted o (yielded ops a.tmps) = true := by simp [Region.wanted, hgd]
  rw [if_pos hw]
  exact wp_append_bytes w s x t tx ho base e T v l hs hown xv hx m hsrc hb hbase h

/-- One byte, laid in a new block by the call. -/
theorem src_one (w : World) {tx e' : TypeId} (hk : P.underlying tx = some (.slice e')) (g c : Nat) (b : UInt8) (h : w.cell? ⟨g, 0, none⟩ = some (.int .u8 (b.toNat : Int))) : Src P 1 tx (.slice (some ⟨g, 0, none⟩) 1 c) [b].length (bys [b]) w :=
  Src.ofSlice w hk ⟨g, 0, none⟩ 1 c (bys [b]) rfl (fun j u hj => by
    match j, hj with
    | 0, hj => simp [bys] at hj; subst hj; simpa [Addr.add_lit] using h) bys_one

theorem src_str (w : World) {tx : TypeId} (hk : P.underlying tx = some .string) (s : ByteArray) : Src P 1 tx (.string s) s.data.toList.length (bys s.data.toList) w := by
  have := Src.ofString (P := P) w hk s
  rwa [Lib.size_eq, bys_string] at this
end
end Go.Proofs.Qxb6606064aDoor
