/-
  What the memory is at each stage of the law on 'close': plain lemmas on worlds.
-/
import Derived.Test.Qxb6608891aClone
namespace Go.Proofs.Qxb6608891a.Stage
open Go.RowKit Go.Proofs.Qxb6608891a.Mem Go.Proofs.Qxb6608891a.Writer Go.Proofs.Qxb6608891a.Clone

theorem owns_zero {w : World} {B : Nat} {v : Value} {n : Nat} {xs : List Value} (h : w.ownsRow B 5 1 v n xs) : w.ownsRow 0 5 1 v n xs := by
  refine ⟨h.1, ?_⟩
  rcases h.2 with h1 | ⟨g, cap, cur, h1, _, h2⟩
  · exact .inl h1
  · exact .inr ⟨g, cap, cur, h1, Nat.zero_le _, h2⟩
theorem owns_below {w w' : World} {B C : Nat} {v : Value} {n : Nat} {xs : List Value} (h : w.ownsRow B 5 1 v n xs) (hb : Below C w w') (hC : w.heap.size ≤ C) : w'.ownsRow B 5 1 v n xs :=
  h.kept (row := none) ⟨hb.os, hb.tape, hb.output, hb.size, fun k hk _ => hb.block k (by omega)⟩ (by cases hv : v.ownBlock <;> simp)

/-- Ahead of the two calls of close. -/
theorem ahead {w w1 w2 : World} {ao1 ao2 : Option Addr} {n c1 c2 : Nat} {xs : List Value} {d : Int} {f : Bool}
    (o1 : w1.ownsRow w.heap.size 5 1 (.slice ao1 n c1) n xs) (b1 : Below w.heap.size w w1) (o2 : w2.ownsRow w1.heap.size 5 1 (.slice ao2 n c2) n xs) (b2 : Below w1.heap.size w1 w2) :
    St ((w2.alloc (.cells #[.slice ao1 n c1, .bool false, .int .i64 d, .bool f] 35)).alloc (.cells #[.slice ao2 n c2, .bool true, .int .i64 d, .bool f] 35)) w2.heap.size ao1 c1 false d f n xs ∧
    St ((w2.alloc (.cells #[.slice ao1 n c1, .bool false, .int .i64 d, .bool f] 35)).alloc (.cells #[.slice ao2 n c2, .bool true, .int .i64 d, .bool f] 35)) (w2.heap.size + 1) ao2 c2 true d f n xs ∧
    Below w.heap.size w ((w2.alloc (.cells #[.slice ao1 n c1, .bool false, .int .i64 d, .bool f] 35)).alloc (.cells #[.slice ao2 n c2, .bool true, .int .i64 d, .bool f] 35)) := by
  have s1 := b1.size
  have s2 := b2.size
  refine ⟨⟨?_, ?_⟩, ⟨?_, ?_⟩, ?_⟩
  · rw [Below.heap_alloc _ _ _ (by simp), heap_alloc_new w2]
  · exact ((owns_zero (owns_below o1 b2 (Nat.le_refl _))).alloc _).alloc _
  · have e := heap_alloc_new (w2.alloc (.cells #[.slice ao1 n c1, .bool false, .int .i64 d, .bool f] 35)) (.cells #[.slice ao2 n c2, .bool true, .int .i64 d, .bool f] 35)
    simpa using e
  · exact ((owns_zero o2).alloc _).alloc _
  · exact ((b1.trans (b2.mono s1)).alloc (by omega) _).alloc (by simp; omega) _

/-- Behind the first. -/
theorem behind1 {w4 w5 : World} {b1 b2 : Nat} {ao1 ao2 : Option Addr} {n c1 c2 : Nat} {xs : List Value} {d : Int} {f : Bool} {L : Nat}
    (h1 : St w4 b1 ao1 c1 false d f n xs) (h2 : St w4 b2 ao2 c2 true d f n xs) (hb : b1 ≠ b2) (r1 : ∀ k, (Value.slice ao1 n c1).ownBlock = some k → k < L) (r2 : ∀ k, (Value.slice ao2 n c2).ownBlock = some k → L ≤ k)
    (hw : Wrote w4 w5 b1 (Value.slice ao1 n c1).ownBlock) : St w5 b2 ao2 c2 true d f n xs := by
  refine h2.kept hw (fun e => hb e.symm) (fun e => ?_) (fun e => ?_) ?_
  · rcases h1.own.2 with ⟨q, _⟩ | ⟨g, cap', cur, q, _, hg, _⟩
    · rw [q] at e; simp [Value.ownBlock] at e
    · rw [q] at e
      simp [Value.ownBlock] at e
      subst e
      rw [h2.blk] at hg
      cases hg
  · rcases h2.own.2 with ⟨q, _⟩ | ⟨g, cap', cur, q, _, hg, _⟩
    · rw [q] at e; simp [Value.ownBlock] at e
    · rw [q] at e
      simp [Value.ownBlock] at e
      subst e
      rw [h1.blk] at hg
      cases hg
  · cases hv : (Value.slice ao2 n c2).ownBlock with
    | none => exact .inl rfl
    | some k =>
      refine .inr (fun e => ?_)
      have := r2 k hv
      have := r1 k e.symm
      omega

/-- Behind the second. -/
theorem behind2 {w4 w5 w6 : World} {b1 b2 : Nat} {ao1 ao2 ao1' : Option Addr} {n c1 c2 c1' : Nat} {xs ys : List Value} {d e : Int} {f : Bool} {m : Nat} {L : Nat}
    (h1 : St w5 b1 ao1' c1' false e false m ys) (h2 : St w5 b2 ao2 c2 true d f n xs) (hb : b1 ≠ b2) (r1 : ∀ k, (Value.slice ao1 n c1).ownBlock = some k → k < L) (r2 : ∀ k, (Value.slice ao2 n c2).ownBlock = some k → L ≤ k ∧ k < w4.heap.size)
    (hm : Moved w4 (.slice ao1 n c1) (.slice ao1' m c1')) (hw : Wrote w5 w6 b2 (Value.slice ao2 n c2).ownBlock) : St w6 b1 ao1' c1' false e false m ys := by
  refine h1.kept hw hb (fun e => ?_) (fun e => ?_) ?_
  · rcases h2.own.2 with ⟨q, _⟩ | ⟨g, cap', cur, q, _, hg, _⟩
    · rw [q] at e; simp [Value.ownBlock] at e
    · rw [q] at e
      simp [Value.ownBlock] at e
      subst e
      rw [h1.blk] at hg
      cases hg
  · rcases h1.own.2 with ⟨q, _⟩ | ⟨g, cap', cur, q, _, hg, _⟩
    · rw [q] at e; simp [Value.ownBlock] at e
    · rw [q] at e
      simp [Value.ownBlock] at e
      subst e
      rw [h2.blk] at hg
      cases hg
  · cases hv : (Value.slice ao1' m c1').ownBlock with
    | none => exact .inl rfl
    | some k =>
      refine .inr (fun e => ?_)
      have q2 := r2 k e.symm
      rcases hm k hv with q | q
      · have := r1 k q
        omega
      · omega

/-- What the owned row of a writer reads as: its address, and its cells. -/
theorem st_row {w : World} {b : Nat} {ao : Option Addr} {cap : Nat} {p : Bool} {d : Int} {f : Bool} {n : Nat} {xs : List Value} (h : St w b ao cap p d f n xs) (hn : 0 < n) :
    ∃ g, ao = some ⟨g, 0, none⟩ ∧ n ≤ cap ∧ cap ≤ maxLen ∧ ∀ j, j < n → w.cell? ⟨g, j, none⟩ = xs[j]? := by
  rcases h.own.2 with ⟨q, h0⟩ | ⟨g, cap', cur, q, _, hg, h1, h2, h3, h4⟩
  · omega
  · cases q
    refine ⟨g, rfl, h1, h2, fun j hj => ?_⟩
    rw [cell_of_row w g j cur 5 (0, 0) hg, ← h4, Nat.mul_one, List.getElem?_take, if_pos hj]
    simp
end Go.Proofs.Qxb6608891a.Stage
