/-
  A BUFFER THAT THE CALL ITSELF MAKES AND FILLS WITHIN ITS CAPACITY: 'make([]byte, 0, N)', 'append(buf, x)', 'append(buf, xs...)': one word for its state, one law a step.
-/
import Derived.Test.Qxb6000676aModsClone
namespace Go.Proofs.Qxb6000676aMods
open Go.RowKit

/-- In the world w the buffer made in the world w0 (its block is the first behind w0's) holds the bytes xs, k of them, with room for 'cap' in all; below it w is as w0 was. -/
structure Buf (w0 w : World) (k cap : Nat) (xs : List Int) : Prop where
  own : w.ownsRow w0.heap.size 5 1 (.slice (some ⟨w0.heap.size, 0, none⟩) k cap) k (xs.map (Value.int .u8))
  below : Below w0.heap.size w0 w
  fits : Bytes xs

theorem Buf.len {w0 w : World} {k cap : Nat} {xs : List Int} (h : Buf w0 w k cap xs) : xs.length = k := by simpa using h.own.1

theorem Buf.rd {w0 w : World} {k cap : Nat} {xs : List Int} (h : Buf w0 w k cap xs) : Rd w (some ⟨w0.heap.size, 0, none⟩) k cap xs := Rd.own h.own h.fits

theorem bytes_app {p q : List Int} (hp : Bytes p) (hq : Bytes q) : Bytes (p ++ q) := fun x hx => by
  rcases List.mem_append.1 hx with h | h
  · exact hp x h
  · exact hq x h

theorem bytes_one {x : Int} (h : 0 ≤ x ∧ x ≤ 255) : Bytes [x] := fun y hy => by
  obtain rfl := List.mem_singleton.1 hy
  exact h

/-- The cells of a slice that reads as bs, as the law on append asks them. -/
theorem Rd.cells {w : World} {a : Option Addr} {n c : Nat} {bs : List Int} (h : Rd w a n c bs) :
    ∀ ad, a = some ad → ∀ j u, (bs.map (Value.int .u8))[j]? = some u → w.cell? (ad.add j) = some u := by
  rintro ad rfl j u hu
  have hj : j < n := by
    have := (List.getElem?_eq_some_iff.1 hu).1
    simpa [h.len] using this
  obtain ⟨b, off, e, hc⟩ := h.at' (by omega)
  obtain rfl := Option.some.inj e
  rw [Addr.add_lit, hc j hj]
  have hl := h.len
  have e2 : (bs.map (Value.int .u8))[j]? = some (.int .u8 (bs.getD j 0)) := by simp [List.getD, show j < bs.length by omega]
  rw [e2] at hu
  exact hu

/-- 'make([]byte, 0, N)'. -/
theorem buf_make (w : World) {ops : Array Oper} {rest : List Oper} {o : Oper} {a : Act} {Q : Exit → Act → World → Prop}
    (hg : o.guard = none) (l c : Operand) (hop : o.op = Op.makeSlice 22 l c) (C : Int) (N : Nat) (hl : a.eval l = .int .i64 0) (hc : a.eval c = .int .i64 C) (hC : C = (N : Int)) (hN : N ≤ 281474976710656)
    (hK : ∀ w', Buf w w' 0 N [] → wpList Trym.prog ops Q rest (a.put o.dst (.slice (some ⟨w.heap.size, 0, none⟩) 0 N)) w') :
    wpList Trym.prog ops Q (o :: rest) a w := by
  obtain ⟨i0, hi, hz0, hz1, hz2⟩ := info_parts info5
  refine wpList_make_own w hg l c 22 hop w.heap.size 5 i0 (.int .u8 0) 1 Trym.underlying22 hi hz0 hz1 _ _ C N hl hc hC (by rw [hz2]; omega) (by unfold maxLen; omega) (Nat.le_refl _) ?_
  intro w' hown hgrow
  exact hK w' ⟨hown, (Below.refl _ _).grown hgrow (Nat.le_refl _) (fun k h => by cases h), by intro x hx; cases hx⟩

/-- 'append(buf, xs...)', within the capacity, xs a slice that was there when the buffer was made. -/
theorem buf_slice (w0 w : World) {ops : Array Oper} {rest : List Oper} {o : Oper} {a : Act} {Q : Exit → Act → World → Prop}
    (hg : o.guard = none) (s x : Operand) (hop : o.op = Op.call { callee := Callee.builtin Builtin.append, args := #[s, x], argTypes := #[22, 22] })
    (k cap : Nat) (xs : List Int) (hB : Buf w0 w k cap xs) (hs : a.eval s = .slice (some ⟨w0.heap.size, 0, none⟩) k cap)
    (ad : Option Addr) (n c : Nat) (bs : List Int) (hr : Rd w0 ad n c bs) (hx : a.eval x = .slice ad n c) (hfit : k + n ≤ cap)
    (hK : ∀ w' k', k' ≤ cap → k' ≤ k + n → k + n ≤ k' → Buf w0 w' k' cap (xs ++ bs) → wpList Trym.prog ops Q rest (a.put o.dst (.slice (some ⟨w0.heap.size, 0, none⟩) k' cap)) w') :
    wpList Trym.prog ops Q (o :: rest) a w := by
  obtain ⟨i0, hi, hz0, hz1, hz2⟩ := info_parts info5
  have hr' := hr.later hB.below
  refine wpList_append_fits_any w hg s x 22 hop w0.heap.size 5 i0 1 Trym.underlying22 hi hz1 w0.heap.size k cap (xs.map (Value.int .u8)) hs hB.own ad n c (bs.map (Value.int .u8)) hx (by simp [hr.len]) hr.nil hr'.cells (ints_oneCell _ _) hfit ?_
  intro w' hown hgrow
  rw [← List.map_append] at hown
  exact hK w' (k + n) hfit (Nat.le_refl _) (Nat.le_refl _) ⟨hown, hB.below.grown hgrow hB.below.size (fun k h => by cases h; exact Nat.le_refl _), bytes_app hB.fits hr.fits⟩

/-- 'append(buf, x)', within the capacity: x has been laid in a new block of its own. -/
theorem buf_one (w0 w : World) {ops : Array Oper} {rest : List Oper} {o : Oper} {a : Act} {Q : Exit → Act → World → Prop}
    (hg : o.guard = none) (s x : Operand) (hop : o.op = Op.call { callee := Callee.builtin Builtin.append, args := #[s, x], argTypes := #[22, 22] })
    (k cap : Nat) (xs : List Int) (hB : Buf w0 w k cap xs) (hs : a.eval s = .slice (some ⟨w0.heap.size, 0, none⟩) k cap)
    (y : Int) (hy : 0 ≤ y ∧ y ≤ 255) (hx : a.eval x = .slice (some ⟨w.heap.size, 0, none⟩) 1 1) (hfit : k + 1 ≤ cap)
    (hK : ∀ w' k', k' ≤ cap → k' ≤ k + 1 → k + 1 ≤ k' → Buf w0 w' k' cap (xs ++ [y]) → wpList Trym.prog ops Q rest (a.put o.dst (.slice (some ⟨w0.heap.size, 0, none⟩) k' cap)) w') :
    wpList Trym.prog ops Q (o :: rest) a (w.alloc (.cells #[.int .u8 y] 5)) := by
  obtain ⟨i0, hi, hz0, hz1, hz2⟩ := info_parts info5
  have hb : Below w0.heap.size w0 (w.alloc (.cells #[.int .u8 y] 5)) := hB.below.alloc hB.below.size _
  refine wpList_append_fits _ hg s x 22 hop w0.heap.size 5 i0 1 Trym.underlying22 hi hz1 w0.heap.size k cap (xs.map (Value.int .u8)) hs (hB.own.alloc _) ⟨w.heap.size, 0, none⟩ 1 1 [.int .u8 y] hx rfl ?_ (by intro u hu; simp at hu; subst hu; rfl) hfit ?_
  · intro j u hj
    match j, hj with
    | 0, hj => simp at hj; subst hj; simp [Addr.add]
  · intro w' hown hgrow
    have e : xs.map (Value.int .u8) ++ [.int .u8 y] = (xs ++ [y]).map (Value.int .u8) := by simp
    rw [e] at hown
    exact hK w' (k + 1) hfit (Nat.le_refl _) (Nat.le_refl _) ⟨hown, hb.grown hgrow hb.size (fun k h => by cases h; exact Nat.le_refl _), bytes_app hB.fits (bytes_one hy)⟩

end Go.Proofs.Qxb6000676aMods
