/-
  Memory lemmas for the text writer: a struct block and the row of bytes that its first field owns. No function of the program is walked here.
-/
import Derived.WalkKit
import Derived.Deep.AppendSrc
import Derived.Lib.AppendStr
import Derived.Lib.Builder
namespace Go.Proofs.Qxb6608891a.Mem
open Go.RowKit

/-- The row behind the new value is the old value's, or a new block. -/
def Moved (w : World) (v v' : Value) : Prop := ∀ k, v'.ownBlock = some k → v.ownBlock = some k ∨ w.heap.size ≤ k

theorem append_moved {P : Program} (w : World) (t u ty e : TypeId) (i : TypeInfo) (z : Value) (ht : P.underlying t = some (.slice e)) (hi : P.info? e = some i) (hz : i.zero = some z)
    (v : Value) (n : Nat) (xs : List Value) (hown : w.ownsRow 0 e i.size v n xs) (x : Value) (m : Nat) (news : List Value) (hS : Src P i.size u x m news w) (hm : 0 < m)
    (h63 : n + m ≤ maxLen) (hb : (n + m) * i.bytes ≤ 140737488355328) {v' : Value} {w' : World} (hr : (Builtin.append_ #[t, u] ty #[v, x]).run P w = .ok v' w') : Moved w v v' := by
  have h63' : ((n + m : Nat) : Int) ≤ 9223372036854775807 := by simp only [maxLen] at h63; omega
  rcases hown.2 with ⟨rfl, rfl⟩ | ⟨g, cap, cur, rfl, _, hg, hnc, _, hcs, _⟩
  · have e1 := run_append_grow_src (P := P) w t u ty e i z ht hi hz none 0 0 [] (run_firstCells_none w.drew i.size 0 0 0) x m news hS (by omega) h63' (growslice_fits (by omega) hb)
    rw [e1] at hr
    cases hr
    intro k hk
    simp [Value.ownBlock] at hk
    exact .inr (by omega)
  · by_cases hroom : n + m ≤ cap
    · have hfit : n * i.size + news.length ≤ cur.size := by rw [hS.newsLen, hcs, ← Nat.add_mul]; exact Nat.mul_le_mul_right _ hroom
      have e1 := run_append_room_src (P := P) w t u ty e i ht hi g 0 n cap x m news hS hroom
        (fun j hj => by rw [cell_of_row w g _ cur e (0, 0) hg]; simp; omega) (fun j _ => Lib.frozen_of_heap hg _)
      rw [e1] at hr
      cases hr
      intro k hk
      exact .inl hk
    · have e1 := run_append_grow_src (P := P) w t u ty e i z ht hi hz (some ⟨g, 0, none⟩) n cap xs
        (run_firstCells_some w.drew i.size n ⟨g, 0, none⟩ n cap xs hown.1 (hown.cells (g := g) rfl)) x m news hS (by omega) h63' (growslice_fits (by omega) hb)
      rw [e1] at hr
      cases hr
      intro k hk
      simp [Value.ownBlock] at hk
      exact .inr (by omega)

/-- 'append(b, c)': one byte, which lies at 'ad', onto an owned row of bytes. -/
theorem wpList_append_one {P : Program} (w : World) {ops : Array Oper} {rest : List Oper} {o : Oper} {a : Act} {Q : Exit → Act → World → Prop} (hgd : o.guard = none) (s x : Operand) (t : TypeId)
    (ho : o.op = .call { callee := .builtin .append, args := #[s, x], argTypes := #[t, t] })
    (e : TypeId) (i : TypeInfo) (ht : P.underlying t = some (.slice e)) (hi : P.info? e = some i) (hz : i.zero = some (.int .u8 0)) (hsize : i.size = 1) (hby : i.bytes = 1)
    (v : Value) (n : Nat) (xs : List Value) (hs : a.eval s = v) (hown : w.ownsRow 0 e 1 v n xs)
    (ad : Addr) (c : Nat) (u : Value) (hx : a.eval x = .slice (some ad) 1 c) (hu : w.cell? ad = some u) (h1 : u.oneCell' = true) (hbytes : n + 1 ≤ 140737488355328)
    (h : ∀ v' w', w'.ownsRow 0 e 1 v' (n + 1) (xs ++ [u]) → w.grownBy w' v.ownBlock → Moved w v v' → wpList P ops Q rest (a.put o.dst v') w') : wpList P ops Q (o :: rest) a w := by
  refine wpList_plain hgd fun K hK => ?_
  have h63 : n + 1 ≤ maxLen := by unfold maxLen; omega
  have hnews : ∀ j y, [u][j]? = some y → w.cell? (ad.add j) = some y := by
    intro j y hj
    match j, hj with
    | 0, hj =>
      simp at hj
      subst hj
      have e0 : ad.add 0 = ad := by unfold Addr.add; split <;> simp_all
      rw [e0]
      exact hu
  obtain ⟨v', w', hr, h2, h3, _⟩ := run_append_own (P := P) w 0 t o.type e i (.int .u8 0) 1 1 ht hi hz hsize hby rfl (by decide) v n xs hown ad 1 c [u] rfl hnews (by simpa using h1) h63 (by omega) (Nat.zero_le _)
  have hmv : Moved w v v' := append_moved (P := P) w t t o.type e i (.int .u8 0) ht hi hz v n xs (by rw [hsize]; exact hown) (.slice (some ad) 1 c) 1 [u]
    (Src.ofSlice (P := P) w ht ad 1 c [u] (by rw [hsize]; rfl) hnews (by simpa using h1)) (by omega) h63 (by rw [hby]; omega) hr
  unfold Oper.wp execOp
  simp only [ho, resolve, invoke, builtin, Sem.run_bind, Sem.run_pure, Result.andThen_ok, List.map_toArray, List.map_cons, List.map_nil, hs, hx, hr]
  exact hK _ _ (h v' w' h2 h3 hmv)

/-- 'append(b, s...)': a string's bytes, one at least, onto an owned row of bytes. -/
theorem wpList_append_str {P : Program} (w : World) {ops : Array Oper} {rest : List Oper} {o : Oper} {a : Act} {Q : Exit → Act → World → Prop} (hgd : o.guard = none) (s x : Operand) (t u : TypeId)
    (ho : o.op = .call { callee := .builtin .append, args := #[s, x], argTypes := #[t, u] })
    (e : TypeId) (i : TypeInfo) (ht : P.underlying t = some (.slice e)) (hk : P.underlying u = some .string) (hi : P.info? e = some i) (hz : i.zero = some (.int .u8 0)) (hsize : i.size = 1) (hby : i.bytes = 1)
    (v : Value) (n : Nat) (xs : List Value) (hs : a.eval s = v) (hown : w.ownsRow 0 e 1 v n xs)
    (sv : ByteArray) (hx : a.eval x = .string sv) (hpos : 0 < sv.size) (hbytes : n + sv.size ≤ 140737488355328)
    (h : ∀ v' w', w'.ownsRow 0 e 1 v' (n + sv.size) (xs ++ Lib.strCells sv) → w.grownBy w' v.ownBlock → Moved w v v' → wpList P ops Q rest (a.put o.dst v') w') : wpList P ops Q (o :: rest) a w := by
  refine wpList_plain hgd fun K hK => ?_
  have h63 : n + sv.size ≤ maxLen := by unfold maxLen; omega
  obtain ⟨v', w', hr, h2, h3, _⟩ := Lib.run_append_own_string (P := P) w 0 t u o.type e i ht hk hi hz hsize hby v n xs hown sv h63 hbytes (Nat.zero_le _)
  have hS : Src P i.size u (.string sv) sv.size (byteCells sv) w := by rw [hsize]; exact Src.ofString w hk sv
  have hmv : Moved w v v' := append_moved (P := P) w t u o.type e i (.int .u8 0) ht hi hz v n xs (by rw [hsize]; exact hown) (.string sv) sv.size (byteCells sv) hS hpos h63 (by rw [hby]; omega) hr
  unfold Oper.wp execOp
  simp only [ho, resolve, invoke, builtin, Sem.run_bind, Sem.run_pure, Result.andThen_ok, List.map_toArray, List.map_cons, List.map_nil, hs, hx, hr]
  exact hK _ _ (h v' w' h2 h3 hmv)

/-- 'w'' is 'w' but for block 'b', the block 'row', and new blocks. -/
structure Wrote (w w' : World) (b : Nat) (row : Option Nat) : Prop where
  os : w'.os = w.os
  tape : w'.tape = w.tape
  output : w'.output = w.output
  size : w.heap.size ≤ w'.heap.size
  block : ∀ k, k < w.heap.size → k ≠ b → some k ≠ row → w'.heap[k]? = w.heap[k]?

theorem Wrote.refl (w : World) (b : Nat) (row : Option Nat) : Wrote w w b row := ⟨rfl, rfl, rfl, Nat.le_refl _, fun _ _ _ _ => rfl⟩
theorem Wrote.trans {w w1 w2 : World} {b : Nat} {v v1 : Value} (h : Wrote w w1 b v.ownBlock) (k : Wrote w1 w2 b v1.ownBlock) (hm : Moved w v v1) : Wrote w w2 b v.ownBlock :=
  ⟨k.os.trans h.os, k.tape.trans h.tape, k.output.trans h.output, Nat.le_trans h.size k.size, fun j hj hb hr =>
    (k.block j (Nat.lt_of_lt_of_le hj h.size) hb (fun e => by
      rcases hm j e.symm with h1 | h1
      · exact hr h1.symm
      · omega)).trans (h.block j hj hb hr)⟩
theorem Wrote.setCell {w : World} (b i : Nat) (u : Value) (row : Option Nat) : Wrote w (w.setCell ⟨b, i, none⟩ u) b row :=
  ⟨rfl, rfl, rfl, by simp, fun k _ hk _ => Below.heap_setCell w _ u k hk⟩
theorem Wrote.ofGrown {w w' : World} {row : Option Nat} (b : Nat) (h : w.grownBy w' row) : Wrote w w' b row := ⟨h.os, h.tape, h.output, h.size, fun k hk _ hr => h.block k hk hr⟩
theorem Wrote.alloc {w : World} (b : Nat) (o : Obj) (row : Option Nat) : Wrote w (w.alloc o) b row := ⟨rfl, rfl, rfl, by simp, fun k hk _ _ => Below.heap_alloc w o k hk⟩
theorem Wrote.below {w w' : World} {b B : Nat} {row : Option Nat} (h : Wrote w w' b row) (hb : B ≤ b) (hr : ∀ k, row = some k → B ≤ k) (hB : B ≤ w.heap.size) : Below B w w' :=
  ⟨h.os, h.tape, h.output, h.size, fun k hk => h.block k (by omega) (by omega) (fun e => by have := hr k e.symm; omega)⟩

theorem Moved.refl (w : World) (v : Value) : Moved w v v := fun _ h => .inl h
theorem Moved.trans {w w1 : World} {v v1 v2 : Value} (h : Moved w v v1) (k : Moved w1 v1 v2) (hs : w.heap.size ≤ w1.heap.size) : Moved w v v2 := by
  intro j hj
  rcases k j hj with h1 | h1
  · exact h j h1
  · exact .inr (by omega)

theorem heap_setCell_at {w : World} {b : Nat} {c : Array Value} {t : TypeId} {fr : Nat × Nat} (h : w.heap[b]? = some (.cells c t fr)) (i : Nat) (u : Value) :
    (w.setCell ⟨b, i, none⟩ u).heap[b]? = some (.cells (c.setIfInBounds i u) t fr) := by
  simp [World.setCell, Array.getElem?_modify, h]

/-- THE STATE OF A WRITER: its struct lies in block 'b'; its bytes 'xs' lie in the row that the first field owns. -/
structure St (w : World) (b : Nat) (ao : Option Addr) (cap : Nat) (p : Bool) (d : Int) (f : Bool) (n : Nat) (xs : List Value) : Prop where
  blk : w.heap[b]? = some (.cells #[.slice ao n cap, .bool p, .int .i64 d, .bool f] 35 (0, 0))
  own : w.ownsRow 0 5 1 (.slice ao n cap) n xs

section
variable {w w' : World} {b : Nat} {ao : Option Addr} {cap : Nat} {p : Bool} {d : Int} {f : Bool} {n : Nat} {xs : List Value}
theorem St.c0 (h : St w b ao cap p d f n xs) : w.cell? ⟨b, 0, none⟩ = some (.slice ao n cap) := by rw [cell_of_row w b 0 _ 35 (0, 0) h.blk]; rfl
theorem St.c1 (h : St w b ao cap p d f n xs) : w.cell? ⟨b, 1, none⟩ = some (.bool p) := by rw [cell_of_row w b 1 _ 35 (0, 0) h.blk]; rfl
theorem St.c2 (h : St w b ao cap p d f n xs) : w.cell? ⟨b, 2, none⟩ = some (.int .i64 d) := by rw [cell_of_row w b 2 _ 35 (0, 0) h.blk]; rfl
theorem St.c3 (h : St w b ao cap p d f n xs) : w.cell? ⟨b, 3, none⟩ = some (.bool f) := by rw [cell_of_row w b 3 _ 35 (0, 0) h.blk]; rfl
theorem St.fz (h : St w b ao cap p d f n xs) (o : Nat) : w.frozen? ⟨b, o, none⟩ = false := Lib.frozen_of_heap h.blk o
theorem St.lt (h : St w b ao cap p d f n xs) : b < w.heap.size := (Array.getElem?_eq_some_iff.1 h.blk).1
theorem St.ne (h : St w b ao cap p d f n xs) : (Value.slice ao n cap).ownBlock ≠ some b := by
  intro e
  rcases h.own.2 with ⟨h1, _⟩ | ⟨g, cap', cur, h1, _, hg, _⟩
  · rw [h1] at e; simp [Value.ownBlock] at e
  · rw [h1] at e
    simp [Value.ownBlock] at e
    subst e
    rw [h.blk] at hg
    cases hg
theorem owns_setCell_ne {v : Value} {m : Nat} {ys : List Value} (h : w.ownsRow 0 5 1 v m ys) (hne : v.ownBlock ≠ some b) (i : Nat) (u : Value) : (w.setCell ⟨b, i, none⟩ u).ownsRow 0 5 1 v m ys :=
  h.kept (row := some b) ⟨rfl, rfl, rfl, by simp, fun k _ hk => Below.heap_setCell w _ u k (fun e => hk (by rw [e]))⟩ (.inr hne)
theorem St.set2 (h : St w b ao cap p d f n xs) (d' : Int) : St (w.setCell ⟨b, 2, none⟩ (.int .i64 d')) b ao cap p d' f n xs :=
  ⟨heap_setCell_at h.blk 2 _, owns_setCell_ne h.own h.ne _ _⟩
theorem St.set3 (h : St w b ao cap p d f n xs) (f' : Bool) : St (w.setCell ⟨b, 3, none⟩ (.bool f')) b ao cap p d f' n xs :=
  ⟨heap_setCell_at h.blk 3 _, owns_setCell_ne h.own h.ne _ _⟩
theorem St.alloc (h : St w b ao cap p d f n xs) (o : Obj) : St (w.alloc o) b ao cap p d f n xs :=
  ⟨by rw [Below.heap_alloc w o b h.lt]; exact h.blk, h.own.alloc o⟩
theorem St.drew (h : St w b ao cap p d f n xs) : St w.drew b ao cap p d f n xs := ⟨h.blk, h.own⟩
/-- Behind an append, ahead of the store: the struct as it was. -/
theorem St.blk' (h : St w b ao cap p d f n xs) (hg : w.grownBy w' (Value.slice ao n cap).ownBlock) : w'.heap[b]? = some (.cells #[.slice ao n cap, .bool p, .int .i64 d, .bool f] 35 (0, 0)) := by
  rw [hg.block b h.lt (fun e => h.ne e.symm)]; exact h.blk
/-- Behind the store. -/
theorem St.put (hb : w'.heap[b]? = some (.cells #[.slice ao n cap, .bool p, .int .i64 d, .bool f] 35 (0, 0))) {ao' : Option Addr} {cap' n' : Nat} {xs' : List Value} (ho : w'.ownsRow 0 5 1 (.slice ao' n' cap') n' xs') :
    St (w'.setCell ⟨b, 0, none⟩ (.slice ao' n' cap')) b ao' cap' p d f n' xs' := by
  refine ⟨heap_setCell_at hb 0 _, owns_setCell_ne ho (fun e => ?_) _ _⟩
  rcases ho.2 with ⟨h1, _⟩ | ⟨g, cap'', cur, h1, _, hg, _⟩
  · rw [h1] at e; simp [Value.ownBlock] at e
  · rw [h1] at e
    simp [Value.ownBlock] at e
    subst e
    rw [hb] at hg
    cases hg
theorem St.kept (h : St w b ao cap p d f n xs) {b2 : Nat} {row : Option Nat} (k : Wrote w w' b2 row) (hb : b ≠ b2) (hr : row ≠ some b) (hv : (Value.slice ao n cap).ownBlock ≠ some b2) (hv' : (Value.slice ao n cap).ownBlock = none ∨ (Value.slice ao n cap).ownBlock ≠ row) :
    St w' b ao cap p d f n xs := by
  refine ⟨by rw [k.block b h.lt hb (fun e => hr e.symm)]; exact h.blk, h.own.1, ?_⟩
  rcases h.own.2 with hn | ⟨g, cap', cur, h1, hb', hg, rest⟩
  · exact .inl hn
  · refine .inr ⟨g, cap', cur, h1, hb', ?_, rest⟩
    rw [h1] at hv hv'
    rw [k.block g (Array.getElem?_eq_some_iff.1 hg).1 (fun e => hv (by simp [Value.ownBlock, e])) (by simpa [Value.ownBlock] using hv')]
    exact hg
theorem owns_shape {v : Value} {m : Nat} {ys : List Value} (h : w.ownsRow 0 5 1 v m ys) : ∃ ao cap, v = .slice ao m cap := by
  rcases h.2 with ⟨rfl, rfl⟩ | ⟨g, cap, _, rfl, _⟩
  · exact ⟨_, _, rfl⟩
  · exact ⟨_, _, rfl⟩
end
end Go.Proofs.Qxb6608891a.Mem
