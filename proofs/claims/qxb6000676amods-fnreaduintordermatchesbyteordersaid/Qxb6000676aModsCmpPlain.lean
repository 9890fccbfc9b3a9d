/-
  THE BYTE ORDER AND THE ORDER OF THE NUMBERS: no Go in sight.
-/
import Derived.Test.Qxb6000676aModsPlain
namespace Go.Proofs.Qxb6000676aMods

/-- The byte order of two lists of one length. -/
def cmpl : List Int → List Int → Int
  | x :: a, y :: b => if x < y then -1 else if y < x then 1 else cmpl a b
  | _, _ => 0

theorem cmpl_same (a : List Int) : cmpl a a = 0 := by
  induction a with
  | nil => rfl
  | cons x t ih => simp [cmpl, ih]

theorem cmpl_lt (k : Nat) : ∀ (a b : List Int), a.take k = b.take k → k < a.length → k < b.length → a.getD k 0 < b.getD k 0 → cmpl a b = -1 := by
  induction k with
  | zero =>
    intro a b _ ha hb h
    match a, b, ha, hb with
    | x :: a, y :: b, _, _ =>
      have h' : x < y := by simpa using h
      simp [cmpl, h']
  | succ k ih =>
    intro a b ht ha hb h
    match a, b, ha, hb with
    | x :: a, y :: b, ha, hb =>
      simp only [List.take_succ_cons, List.cons.injEq] at ht
      obtain ⟨rfl, ht⟩ := ht
      have := ih a b ht (by simpa using ha) (by simpa using hb) (by simpa using h)
      simp [cmpl, this]

theorem cmpl_gt (k : Nat) : ∀ (a b : List Int), a.take k = b.take k → k < a.length → k < b.length → b.getD k 0 < a.getD k 0 → cmpl a b = 1 := by
  induction k with
  | zero =>
    intro a b _ ha hb h
    match a, b, ha, hb with
    | x :: a, y :: b, _, _ =>
      have h' : y < x := by simpa using h
      have h'' : ¬ x < y := by omega
      simp [cmpl, h', h'']
  | succ k ih =>
    intro a b ht ha hb h
    match a, b, ha, hb with
    | x :: a, y :: b, ha, hb =>
      simp only [List.take_succ_cons, List.cons.injEq] at ht
      obtain ⟨rfl, ht⟩ := ht
      have := ih a b ht (by simpa using ha) (by simpa using hb) (by simpa using h)
      simp [cmpl, this]

theorem bytes_tail {x : Int} {l : List Int} (h : Bytes (x :: l)) : Bytes l := fun y hy => h y (List.mem_cons_of_mem _ hy)

/-- For lists of bytes of one length the byte order is the order of the numbers that they write. -/
theorem cmpl_dl : ∀ (a b : List Int), a.length = b.length → Bytes a → Bytes b →
    (cmpl a b = -1 ∧ dl a.reverse < dl b.reverse) ∨ (cmpl a b = 1 ∧ dl b.reverse < dl a.reverse) ∨ (cmpl a b = 0 ∧ dl a.reverse = dl b.reverse) := by
  intro a
  induction a with
  | nil =>
    intro b hl _ _
    match b, hl with
    | [], _ => exact .inr (.inr ⟨rfl, rfl⟩)
  | cons x a ih =>
    intro b hl ha hb
    match b, hl with
    | y :: b, hl =>
      have hl' : a.length = b.length := by simpa using hl
      have h := ih b hl' (bytes_tail ha) (bytes_tail hb)
      have ba := dl_bd a.reverse (bytes_reverse (bytes_tail ha))
      have bb := dl_bd b.reverse (bytes_reverse (bytes_tail hb))
      simp only [List.reverse_cons, dl_snoc, List.length_reverse] at *
      rw [← hl'] at bb ⊢
      generalize (256 : Int) ^ a.length = P at *
      generalize dl a.reverse = A at *
      generalize dl b.reverse = B at *
      by_cases h1 : x < y
      · left
        refine ⟨by simp [cmpl, h1], ?_⟩
        have : (x + 1) * P ≤ y * P := Int.mul_le_mul_of_nonneg_right (by omega) (by omega)
        rw [Int.add_mul, Int.one_mul] at this
        omega
      · by_cases h2 : y < x
        · right; left
          refine ⟨by simp [cmpl, h1, h2], ?_⟩
          have : (y + 1) * P ≤ x * P := Int.mul_le_mul_of_nonneg_right (by omega) (by omega)
          rw [Int.add_mul, Int.one_mul] at this
          omega
        · obtain rfl : x = y := by omega
          have e : cmpl (x :: a) (x :: b) = cmpl a b := by simp [cmpl]
          rw [e]
          rcases h with ⟨h, h'⟩ | ⟨h, h'⟩ | ⟨h, h'⟩
          · exact .inl ⟨h, by omega⟩
          · exact .inr (.inl ⟨h, by omega⟩)
          · exact .inr (.inr ⟨h, by omega⟩)

theorem ru_short (l : List Int) (hl : l.length ≤ 8) (h : Bytes l) : ru l = dl l.reverse := by
  rw [ru_eq, dl_take8 _ (bytes_reverse h), List.take_of_length_le (by simpa using hl)]

/-- The law. -/
theorem cmpl_ru (a b : List Int) (n : Nat) (hla : a.length = n) (hlb : b.length = n) (h8 : n ≤ 8) (ha : Bytes a) (hb : Bytes b) :
    (cmpl a b = -1 ∧ ru a < ru b) ∨ (cmpl a b = 1 ∧ ru b < ru a) ∨ (cmpl a b = 0 ∧ ru a = ru b) := by
  rw [ru_short a (by omega) ha, ru_short b (by omega) hb]
  exact cmpl_dl a b (by omega) ha hb

end Go.Proofs.Qxb6000676aMods
