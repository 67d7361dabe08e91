/-
  append onto a row of the call's own: where it has no room the old row is not written.
-/
import Derived.Test.Qxb6606064aDoorHex
namespace Go.Proofs.Qxb6606064aDoor
open Go.RowKit

/-- The row had room for m more; or nothing that was there is written, and the new slice lies in new memory. -/
def Keep (w : World) (v : Value) (m : Nat) (w' : World) (v' : Value) : Prop :=
  (∃ a n cap, v = .slice a n cap ∧ n + m ≤ cap) ∨ (w.grownBy w' none ∧ ∀ k, v'.ownBlock = some k → w.heap.size ≤ k)

section
variable {P : Program}

/-- append onto a row of the call's own, of whatever source. -/
theorem run_append_own_keep (w : World) (base : Nat) (t tx ty e : TypeId) (i : TypeInfo) (z : Value) (ht : P.underlying t = some (.slice e)) (hi : P.info? e = some i) (hz : i.zero = some z)
    (hsize : i.size = 1) (hby : i.bytes = 1) (hzs : z.cells.size = 1)
    (v : Value) (n : Nat) (xs : List Value) (hown : w.ownsRow base e 1 v n xs)
    (x : Value) (m : Nat) (news : List Value) (hs : Src P 1 tx x m news w)
    (hbytes : n + m ≤ 140737488355328) (hbase : base ≤ w.heap.size) :
    ∃ v' w', (Builtin.append_ #[t, tx] ty #[v, x]).run P w = .ok v' w' ∧ w'.ownsRow base e 1 v' (n + m) (xs ++ news) ∧ w.grownBy w' v.ownBlock ∧ (∀ k, v'.ownBlock = some k → v.ownBlock = some k ∨ w.heap.size ≤ k) ∧ Keep w v m w' v' := by
  have h63 : n + m ≤ maxLen := by unfold maxLen; omega
  have hl := hs.newsLen
  have hlen : (xs ++ news).length = (n + m) * 1 := by rw [List.length_append, hown.1, hl, Nat.add_mul]
  have hs' : Src P i.size tx x m news w := by rw [hsize]; exact hs
  have grown : ∀ (old : Nat), old < n + m → ∀ (row : Option Nat),
      (w.drew.alloc (.cells ((xs ++ news).toArray ++ Builtin.zeroCells z.cells (grownCap w (n + m) old e - (n + m))) e)).ownsRow base e 1
        (.slice (some ⟨w.heap.size, 0, none⟩) (n + m) (grownCap w (n + m) old e)) (n + m) (xs ++ news) ∧
      w.grownBy (w.drew.alloc (.cells ((xs ++ news).toArray ++ Builtin.zeroCells z.cells (grownCap w (n + m) old e - (n + m))) e)) row := by
    intro old ho row
    have hge := grownCap_ge w (n + m) old e
    have hcm : grownCap w (n + m) old e ≤ maxLen := grownCap_le_maxLen w (n + m) old e h63
    refine ⟨⟨hlen, .inr ⟨w.heap.size, _, _, rfl, hbase, _root_.Go.heap_alloc_new w.drew _, hge, hcm, ?_, ?_⟩⟩, ⟨rfl, rfl, rfl, by simp, fun k hk _ => Below.heap_alloc w.drew _ k hk⟩⟩
    · simp only [Array.size_append, List.size_toArray, size_zeroCells, hzs, hlen]
      omega
    · simp only [Array.toList_append]
      rw [← hlen]
      exact List.take_left
  rcases hown.2 with ⟨rfl, rfl⟩ | ⟨g, cap, cur, rfl, hbg, hg, hnc, hcm, hcs, htake⟩
  · have hx : xs = [] := List.eq_nil_of_length_eq_zero (by simpa using hown.1)
    subst hx
    by_cases hm : m = 0
    · subst hm
      have hn : news = [] := List.eq_nil_of_length_eq_zero (by simpa using hl)
      subst hn
      refine ⟨.slice none 0 0, w, ?_, World.ownsRow_nil w base e 1, ⟨rfl, rfl, rfl, Nat.le_refl _, fun _ _ _ => rfl⟩, fun _ h => .inl h, .inr ⟨⟨rfl, rfl, rfl, Nat.le_refl _, fun _ _ _ => rfl⟩, fun k h => by simp [Value.ownBlock] at h⟩⟩
      have hc := hs'.cells
      rcases hs.kind with ⟨e', hk⟩ | hk <;>
        simp [Builtin.append_, run_underlying ht, run_underlying hk, sizeOf, typeInfo, hi, hs.len, hc]
    · have hr := run_append_grow_src (P := P) w t tx ty e i z ht hi hz none 0 0 [] (by simp [Builtin.firstCells]) x m news hs' (by omega) (by omega) (growslice_fits (by omega) (by rw [hby]; omega))
      have hgr := grown 0 (by omega) (Value.ownBlock (.slice none 0 0))
      exact ⟨_, _, hr, hgr.1, hgr.2, fun k h => .inr (by simp [Value.ownBlock] at h; omega), .inr ⟨(grown _ (by omega) none).2, fun k h => by simp [Value.ownBlock] at h; omega⟩⟩
  · by_cases hroom : n + m ≤ cap
    · have hfit : n * i.size + news.length ≤ cur.size := by rw [hl, hcs, hsize, ← Nat.add_mul]; exact Nat.mul_le_mul_right _ hroom
      have hst := run_storeCells_at P g (n * i.size) e news 0 cur w hg (by simpa using hfit) hs.one
      simp only [Nat.add_zero] at hst
      have hr : (Builtin.append_ #[t, tx] ty #[.slice (some ⟨g, 0, none⟩) n cap, x]).run P w =
          .ok (.slice (some ⟨g, 0, none⟩) (n + m) cap) (w.setRow g (cur.toList.take (n * i.size) ++ news ++ cur.toList.drop (n * i.size + news.length)).toArray) := by
        rcases hs.kind with ⟨e', hk⟩ | hk <;> simp [Builtin.append_, run_underlying ht, run_underlying hk, sizeOf, typeInfo, hi, hs.len, hroom, hs'.cells, Addr.add_lit, hst]
      refine ⟨_, _, hr, ⟨hlen, .inr ⟨g, cap, _, rfl, hbg, setRow_heap w g cur _ e _ hg, hroom, hcm, ?_, ?_⟩⟩, ⟨rfl, rfl, rfl, by simp, fun k _ hk => setRow_other w g k _ (fun e => hk (by simp [Value.ownBlock, e]))⟩, fun _ h => .inl h, .inl ⟨_, _, _, rfl, hroom⟩⟩
      · simp only [List.size_toArray, List.length_append, List.length_take, List.length_drop, Array.length_toList]
        omega
      · rw [hsize, htake, ← hlen]
        exact List.take_left
    · have holds : ∀ j u, xs[j]? = some u → w.cell? ((⟨g, 0, none⟩ : Addr).add j) = some u := hown.cells (g := g) rfl
      have hold := run_firstCells_some (P := P) w.drew 1 n ⟨g, 0, none⟩ n cap xs hown.1 (by simpa using holds)
      have hr := run_append_grow_src (P := P) w t tx ty e i z ht hi hz (some ⟨g, 0, none⟩) n cap xs (by rw [hsize]; exact hold) x m news hs' (by omega) (by unfold maxLen at h63; omega) (growslice_fits (by omega) (by rw [hby]; omega))
      have hgr := grown cap (by omega) (Value.ownBlock (.slice (some ⟨g, 0, none⟩) n cap))
      exact ⟨_, _, hr, hgr.1, hgr.2, fun k h => .inr (by simp [Value.ownBlock] at h; omega), .inr ⟨(grown _ (by omega) none).2, fun k h => by simp [Value.ownBlock] at h; omega⟩⟩

theorem run_append_keep (w : World) (base : Nat) (t tx ty e : TypeId) (T : BT P t e) (v : Value) (l : List UInt8) (hown : Own w base e v l) (x : Value) (m : List UInt8) (hs : Src P 1 tx x m.length (bys m) w)
    (hb : l.length + m.length ≤ 140737488355328) (hbase : base ≤ w.heap.size) :
    ∃ v' w', (Builtin.append_ #[t, tx] ty #[v, x]).run P w = .ok v' w' ∧ Own w' base e v' (l ++ m) ∧ Grow w v w' v' ∧ Keep w v m.length w' v' := by
  obtain ⟨i, z, h1, h2, h3, h4, h5⟩ := T.info
  obtain ⟨v', w', hr, ho, hg, hn, hk⟩ := run_append_own_keep w base t tx ty e i z T.ht h1 h2 h3 h4 h5 v l.length (bys l) hown x m.length (bys m) hs hb hbase
  refine ⟨v', w', hr, ?_, ⟨hg, hn⟩, hk⟩
  unfold Own
  rw [List.length_append, bys_append]
  exact ho

theorem wpList_append_keep {ops : Array Oper} {rest : List Oper} {o : Oper} {a : Act} {Q : Exit → Act → World → Prop} (w : World) (hgd : o.guard = none) (s x : Operand) (t tx : TypeId)
    (ho : o.op = .call { callee := .builtin .append, args := #[s, x], argTypes := #[t, tx] }) (base : Nat) (e : TypeId) (T : BT P t e)
    (v : Value) (l : List UInt8) (hs : a.eval s = v) (hown : Own w base e v l) (xv : Value) (hx : a.eval x = xv) (m : List UInt8) (hsrc : Src P 1 tx xv m.length (bys m) w)
    (hb : l.length + m.length ≤ 140737488355328) (hbase : base ≤ w.heap.size)
    (h : ∀ v' w', Own w' base e v' (l ++ m) → Grow w v w' v' → Keep w v m.length w' v' → wpList P ops Q rest (a.put o.dst v') w') : wpList P ops Q (o :: rest) a w :=
  wpList_plain hgd fun _ hK => by
    obtain ⟨v', w', hr, h2, h3, h4⟩ := run_append_keep (P := P) w base t tx o.type e T v l hown xv m hsrc hb hbase
    unfold Oper.wp execOp
    simp only [ho, resolve, invoke, builtin, Sem.run_bind, Sem.run_pure, Result.andThen_ok, List.map_toArray, List.map_cons, List.map_nil, hs, hx, hr]
    exact hK _ _ (h v' w' h2 h3 h4)
end
end Go.Proofs.Qxb6606064aDoor
