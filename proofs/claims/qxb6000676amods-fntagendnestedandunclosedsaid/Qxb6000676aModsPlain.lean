/-
  THE PLAIN FUNCTIONS AND THEIR LAWS: no Go in sight.
-/
namespace Go.Proofs.Qxb6000676aMods

/-! ### readUint -/
def rus (v c : Int) : Int := (v * 256 + c) % 18446744073709551616
def ru (bs : List Int) : Int := bs.foldl rus 0

/-- The number that the bytes write, least byte first. -/
def dl : List Int → Int
  | [] => 0
  | c :: t => c + 256 * dl t

def Bytes (bs : List Int) : Prop := ∀ x ∈ bs, 0 ≤ x ∧ x ≤ 255

theorem ru_nil : ru [] = 0 := rfl
theorem ru_snoc (bs : List Int) (c : Int) : ru (bs ++ [c]) = rus (ru bs) c := by simp [ru]
theorem rus_bd (v c : Int) : 0 ≤ rus v c ∧ rus v c < 18446744073709551616 := by unfold rus; omega

theorem dl_snoc (l : List Int) (c : Int) : dl (l ++ [c]) = dl l + c * 256 ^ l.length := by
  induction l with
  | nil => simp [dl]
  | cons x t ih =>
    rw [List.cons_append, dl, dl, ih, List.length_cons, Int.pow_succ, Int.mul_add, ← Int.add_assoc]
    congr 1
    rw [Int.mul_comm 256, Int.mul_assoc]

theorem dl_bd (l : List Int) (h : Bytes l) : 0 ≤ dl l ∧ dl l < 256 ^ l.length := by
  induction l with
  | nil => simp [dl]
  | cons x t ih =>
    have h1 := h x (by simp)
    have h2 := ih (fun y hy => h y (by simp [hy]))
    rw [dl, List.length_cons, Int.pow_succ]
    omega

theorem dl_app (l r : List Int) : dl (l ++ r) = dl l + dl r * 256 ^ l.length := by
  induction l with
  | nil => simp [dl]
  | cons x t ih =>
    rw [List.cons_append, dl, dl, ih, List.length_cons, Int.pow_succ, Int.mul_add, ← Int.add_assoc]
    congr 1
    rw [Int.mul_comm 256, Int.mul_assoc]

/-- readUint is the number that the bytes write, greatest first, cut to 64 bits. -/
theorem ru_eq (bs : List Int) : ru bs = dl bs.reverse % 18446744073709551616 := by
  have h : ∀ (l : List Int), ru l.reverse = dl l % 18446744073709551616 := by
    intro l
    induction l with
    | nil => rfl
    | cons x t ih =>
      rw [List.reverse_cons, ru_snoc, ih, rus, dl]
      omega
  have := h bs.reverse
  rwa [List.reverse_reverse] at this

theorem ru_bd (bs : List Int) : 0 ≤ ru bs ∧ ru bs < 18446744073709551616 := by rw [ru_eq]; omega

theorem bytes_take {l : List Int} (h : Bytes l) (k : Nat) : Bytes (l.take k) := fun x hx => h x (List.mem_of_mem_take hx)
theorem bytes_reverse {l : List Int} (h : Bytes l) : Bytes l.reverse := fun x hx => h x (List.mem_reverse.1 hx)

theorem dl_take8 (l : List Int) (h : Bytes l) : dl l % 18446744073709551616 = dl (l.take 8) := by
  have hb := dl_bd (l.take 8) (bytes_take h 8)
  by_cases hl : l.length ≤ 8
  · rw [List.take_of_length_le hl] at hb ⊢
    have hp : (256 : Int) ^ l.length ≤ 256 ^ 8 := by
      have : ((256 ^ l.length : Nat) : Int) ≤ ((256 ^ 8 : Nat) : Int) := by exact_mod_cast Nat.pow_le_pow_right (by omega) hl
      simpa using this
    have h8 : (256 : Int) ^ 8 = 18446744073709551616 := by decide
    omega
  · have hlen : (l.take 8).length = 8 := by simp; omega
    have e := dl_app (l.take 8) (l.drop 8)
    rw [List.take_append_drop, hlen] at e
    rw [hlen] at hb
    have h8 : (256 : Int) ^ 8 = 18446744073709551616 := by decide
    rw [h8] at e hb
    omega

/-- The law's own sum: the last k bytes, weighted from the end. -/
def ws (bs : List Int) (k : Nat) : Int := dl (bs.reverse.take k)

theorem ws_zero (bs : List Int) : ws bs 0 = 0 := by simp [ws, dl]
theorem ws_succ (bs : List Int) (k : Nat) (hk : k < bs.length) : ws bs (k + 1) = ws bs k + bs.getD (bs.length - 1 - k) 0 * 256 ^ k := by
  unfold ws
  have hk' : k < bs.reverse.length := by simpa using hk
  rw [List.take_succ_eq_append_getElem hk', dl_snoc]
  congr 1
  rw [List.length_take, Nat.min_eq_left (by omega), List.getElem_reverse]
  simp [List.getD, show bs.length - 1 - k < bs.length by omega]
theorem ws_bd (bs : List Int) (h : Bytes bs) (k : Nat) : 0 ≤ ws bs k ∧ ws bs k < 256 ^ k := by
  have hb := dl_bd _ (bytes_take (bytes_reverse h) k)
  have hp : (256 : Int) ^ (bs.reverse.take k).length ≤ 256 ^ k := by
    have : ((256 ^ (bs.reverse.take k).length : Nat) : Int) ≤ ((256 ^ k : Nat) : Int) := by exact_mod_cast Nat.pow_le_pow_right (by omega) (List.length_take_le _ _)
    simpa using this
  unfold ws
  omega
theorem ru_ws (bs : List Int) (h : Bytes bs) : ru bs = ws bs 8 := by rw [ru_eq, dl_take8 _ (bytes_reverse h)]; rfl
theorem ws_all (bs : List Int) (k : Nat) (hk : bs.length ≤ k) : ws bs k = ws bs bs.length := by
  unfold ws
  rw [List.take_of_length_le (by simpa using hk), List.take_of_length_le (by simp)]

end Go.Proofs.Qxb6000676aMods
