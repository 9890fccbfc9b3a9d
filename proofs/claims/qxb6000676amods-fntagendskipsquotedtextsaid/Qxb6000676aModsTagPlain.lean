/-
  tagEnd AS A PLAIN FUNCTION, AND ITS LAWS: no Go in sight.
-/
import Derived.Test.Qxb6000676aModsPlain
namespace Go.Proofs.Qxb6000676aMods

/-- tagEnd from place i on, inside the quote q (0: outside quotes). -/
def tg : List Int → Int → Nat → Int × Bool
  | [], _, _ => (0, false)
  | c :: t, q, i =>
    if q = 0 then
      if c = 34 ∨ c = 39 then tg t c (i + 1)
      else if c = 60 then ((i : Int), true)
      else if c = 62 then ((i : Int) + 1, false)
      else tg t 0 (i + 1)
    else if c = q then tg t 0 (i + 1) else tg t q (i + 1)

def te (bs : List Int) : Int × Bool := tg (bs.drop 1) 0 1

/-- Markup: one of the bytes 60, 62 (the angle brackets), 34, 39 (the two quotes). -/
def mk (c : Int) : Bool := decide (c = 60 ∨ c = 62 ∨ c = 34 ∨ c = 39)

def hasMk (bs : List Int) : Bool := bs.any mk
def hasB (q : Int) (bs : List Int) : Bool := bs.any (fun c => decide (c = q))

theorem tg_shut (c : Int) (t : List Int) (q : Int) (i : Nat) (hq : ¬ q = 0) (hc : c = q) : tg (c :: t) q i = tg t 0 (i + 1) := by simp [tg, hq, hc]
theorem tg_in (c : Int) (t : List Int) (q : Int) (i : Nat) (hq : ¬ q = 0) (hc : ¬ c = q) : tg (c :: t) q i = tg t q (i + 1) := by simp [tg, hq, hc]
theorem tg_quote (c : Int) (t : List Int) (i : Nat) (hc : c = 34 ∨ c = 39) : tg (c :: t) 0 i = tg t c (i + 1) := by simp [tg, hc]
theorem tg_nested (t : List Int) (i : Nat) : tg (60 :: t) 0 i = ((i : Int), true) := by simp [tg]
theorem tg_end (t : List Int) (i : Nat) : tg (62 :: t) 0 i = ((i : Int) + 1, false) := by simp [tg]
theorem tg_plain (c : Int) (t : List Int) (i : Nat) (h1 : ¬ c = 34) (h2 : ¬ c = 39) (h3 : ¬ c = 60) (h4 : ¬ c = 62) : tg (c :: t) 0 i = tg t 0 (i + 1) := by simp [tg, h1, h2, h3, h4]

/-- Plain text is passed over. -/
theorem tg_skip (p : List Int) : ∀ (r : List Int) (i : Nat), hasMk p = false → tg (p ++ r) 0 i = tg r 0 (i + p.length) := by
  induction p with
  | nil => intro r i _; rfl
  | cons c t ih =>
    intro r i h
    simp only [hasMk, List.any_cons, Bool.or_eq_false_iff] at h
    have hc : ¬ (c = 60 ∨ c = 62 ∨ c = 34 ∨ c = 39) := by simpa [mk] using h.1
    rw [List.cons_append, tg_plain c _ i (by omega) (by omega) (by omega) (by omega), ih r (i + 1) h.2, List.length_cons]
    congr 1
    omega

/-- Quoted text is passed over. -/
theorem tg_quoted (q : Int) (hq : ¬ q = 0) (p : List Int) : ∀ (r : List Int) (i : Nat), hasB q p = false → tg (p ++ r) q i = tg r q (i + p.length) := by
  induction p with
  | nil => intro r i _; rfl
  | cons c t ih =>
    intro r i h
    simp only [hasB, List.any_cons, Bool.or_eq_false_iff] at h
    have hc : ¬ c = q := by simpa using h.1
    rw [List.cons_append, tg_in c _ q i hq hc, ih r (i + 1) h.2, List.length_cons]
    congr 1
    omega

/-- LAW 4: lead, plain text, a quoted run, plain text, the byte 62: the end is just behind that byte. -/
theorem te_skips (lead q : Int) (p1 s p2 r : List Int) (hq : q = 34 ∨ q = 39) (h1 : hasMk p1 = false) (hs : hasB q s = false) (h2 : hasMk p2 = false) :
    te ([lead] ++ p1 ++ [q] ++ s ++ [q] ++ p2 ++ [62] ++ r) = (((([lead] ++ p1 ++ [q] ++ s ++ [q] ++ p2 ++ [62]).length : Nat) : Int), false) := by
  have hq0 : ¬ q = 0 := by omega
  unfold te
  simp only [List.append_assoc, List.cons_append, List.nil_append, List.drop_succ_cons, List.drop_zero]
  rw [tg_skip p1 _ 1 h1, tg_quote q _ _ hq, tg_quoted q hq0 s _ _ hs, tg_shut q _ q _ hq0 rfl, tg_skip p2 _ _ h2, tg_end]
  simp only [List.length_cons, List.length_append, List.length_nil, Prod.mk.injEq, and_true]
  omega

/-- LAW 5, its three limbs. -/
theorem te_open (lead : Int) (p : List Int) (h : hasMk p = false) : te ([lead] ++ p) = (0, false) := by
  have := tg_skip p [] 1 h
  rw [List.append_nil] at this
  simp [te, this, tg]

theorem te_nest (lead : Int) (p r : List Int) (h : hasMk p = false) : te ([lead] ++ p ++ [60] ++ r) = (((1 + p.length : Nat) : Int), true) := by
  unfold te
  simp only [List.append_assoc, List.cons_append, List.nil_append, List.drop_succ_cons, List.drop_zero]
  rw [tg_skip p _ 1 h, tg_nested]

theorem te_unc (lead q : Int) (p s : List Int) (hq : q = 34 ∨ q = 39) (h : hasMk p = false) (hs : hasB q s = false) : te ([lead] ++ p ++ [q] ++ s) = (0, false) := by
  have hq0 : ¬ q = 0 := by omega
  have := fun i => tg_quoted q hq0 s [] i hs
  simp only [List.append_nil] at this
  unfold te
  simp only [List.append_assoc, List.cons_append, List.nil_append, List.drop_succ_cons, List.drop_zero]
  rw [tg_skip p _ 1 h, tg_quote q _ _ hq, this]
  rfl

end Go.Proofs.Qxb6000676aMods
