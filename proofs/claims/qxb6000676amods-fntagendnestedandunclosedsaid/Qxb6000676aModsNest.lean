/-
  THE WALK OF FnTagEndNestedAndUnclosed.
-/
import Derived.Test.Qxb6000676aModsBuf
import Derived.Test.Qxb6000676aModsTag
import Derived.Test.Qxb6000676aModsHas
namespace Go.Proofs.Qxb6000676aMods
open Go.RowKit

/-- The bound on the total length is passed. -/
theorem bytes8_no (x y : Int) (a1 a2 a3 : Option Addr) (n1 n2 n3 c1 c2 c3 : Nat) (w : World) (h1 : n1 ≤ 9223372036854775807) (h2 : n2 ≤ 9223372036854775807) (h3 : n3 ≤ 9223372036854775807)
    (hbig : 1048576 < n1 + n2 + n3) :
    Calls Trym.prog 21 #[.int .u8 x, .slice a1 n1 c1, .slice a2 n2 c2, .slice a3 n3 c3, .int .u8 y] w fun e w' => e = .returned (.bool false) ∧ w' = w := by
  by_cases t1 : 1048576 < n1
  · go_enter Trym.func21, Trym.ntmps21
    go_wp2
    go_ret
    exact ⟨rfl, rfl⟩
  · by_cases t2 : 1048576 < n2
    · go_enter Trym.func21, Trym.ntmps21
      go_wp2
      go_ret
      exact ⟨rfl, rfl⟩
    · by_cases t12 : 1048576 < n1 + n2
      · go_enter Trym.func21, Trym.ntmps21
        go_wp2
        go_ret
        exact ⟨rfl, rfl⟩
      · by_cases t3 : 1048576 < n3
        · go_enter Trym.func21, Trym.ntmps21
          go_wp2
          go_ret
          exact ⟨rfl, rfl⟩
        · go_enter Trym.func21, Trym.ntmps21
          go_wp2
          go_ret
          exact ⟨rfl, rfl⟩

theorem bytes8_yes (x y : Int) (a1 a2 a3 : Option Addr) (n1 n2 n3 c1 c2 c3 : Nat) (w : World) (hs : n1 + n2 + n3 ≤ 1048576) :
    Calls Trym.prog 21 #[.int .u8 x, .slice a1 n1 c1, .slice a2 n2 c2, .slice a3 n3 c3, .int .u8 y] w fun e w' => e = .returned (.bool true) ∧ w' = w := by
  go_enter Trym.func21, Trym.ntmps21
  go_wp2
  go_ret
  exact ⟨rfl, rfl⟩

set_option maxHeartbeats 400000 in
theorem nest_big (x y : Int) (a1 a2 a3 : Option Addr) (n1 n2 n3 c1 c2 c3 : Nat) (w : World) (h1 : n1 ≤ 9223372036854775807) (h2 : n2 ≤ 9223372036854775807) (h3 : n3 ≤ 9223372036854775807)
    (hbig : 1048576 < n1 + n2 + n3) :
    Calls Trym.prog 8 #[.int .u8 x, .slice a1 n1 c1, .slice a2 n2 c2, .slice a3 n3 c3, .int .u8 y] w fun e w' => e = .returned (.bool true) ∧ Below w.heap.size w w' := by
  go_enter Trym.func8, Trym.ntmps8
  go_wp2_with fail
  refine (bytes8_no x y a1 a2 a3 n1 n2 n3 c1 c2 c3 w h1 h2 h3 hbig).mono ?_
  rintro e w' ⟨rfl, rfl⟩
  go_wp2
  go_ret
  exact ⟨rfl, Below.refl _ _⟩

theorem quote_is {sel q : Int} {w : World} (h0 : 0 ≤ sel) (h1 : sel ≤ 255) (h : quo sel = q) :
    Calls Trym.prog 18 #[.int .u8 sel] w fun e w' => e = .returned (.int .u8 q) ∧ w' = w := by
  subst h
  exact quote_any sel w h0 h1

set_option maxHeartbeats 1000000 in
theorem nest_other {x y : Int} {a1 a2 a3 : Option Addr} {n1 n2 n3 c1 c2 c3 : Nat} {z1 z2 : List Int} {w : World} (r1 : Rd w a1 n1 c1 z1) (r2 : Rd w a2 n2 c2 z2)
    (hy0 : 0 ≤ y) (hy1 : y ≤ 255) (hs : n1 + n2 + n3 ≤ 1048576) (hno : hasMk z1 = true ∨ hasB (quo y) z2 = true) :
    Calls Trym.prog 8 #[.int .u8 x, .slice a1 n1 c1, .slice a2 n2 c2, .slice a3 n3 c3, .int .u8 y] w fun e w' => e = .returned (.bool true) ∧ Below w.heap.size w w' := by
  obtain ⟨q, HQ⟩ : ∃ q, Hid (quo y = q) := ⟨_, rfl⟩
  obtain ⟨v1, H1⟩ : ∃ v, Hid (hasMk z1 = v) := ⟨_, rfl⟩
  obtain ⟨v2, H2⟩ : ∃ v, Hid (hasB q z2 = v) := ⟨_, rfl⟩
  rw [HQ.out, H1.out, H2.out] at hno
  have R1 : Hid (Rd w a1 n1 c1 z1) := r1
  have R2 : Hid (Rd w a2 n2 c2 z2) := r2
  clear r1 r2
  go_enter Trym.func8, Trym.ntmps8
  go_wp2_with fail
  refine (bytes8_yes x y a1 a2 a3 n1 n2 n3 c1 c2 c3 w hs).mono ?_
  rintro e w1 ⟨rfl, rfl⟩
  go_wp2_with fail
  refine (quote_is hy0 hy1 HQ.out).mono ?_
  rintro e w2 ⟨rfl, rfl⟩
  go_wp2_with fail
  refine (mk_any R1.out (by omega) H1.out).mono ?_
  rintro e w3 ⟨rfl, rfl⟩
  cases v1 with
  | true =>
    go_wp2
    go_ret
    exact ⟨rfl, Below.refl _ _⟩
  | false =>
    have hv2 : v2 = true := by simpa using hno
    subst hv2
    clear hno
    go_wp2_with fail
    refine (b_any R2.out (by omega) H2.out).mono ?_
    rintro e w5 ⟨rfl, rfl⟩
    go_wp2
    go_ret
    exact ⟨rfl, Below.refl _ _⟩

set_option maxHeartbeats 2000000 in
theorem nest_main {x y : Int} {a1 a2 a3 : Option Addr} {n1 n2 n3 c1 c2 c3 : Nat} {z1 z2 z3 : List Int} {w : World} (r1 : Rd w a1 n1 c1 z1) (r2 : Rd w a2 n2 c2 z2) (r3 : Rd w a3 n3 c3 z3)
    (hx0 : 0 ≤ x) (hx1 : x ≤ 255) (hy0 : 0 ≤ y) (hy1 : y ≤ 255) (hs : n1 + n2 + n3 ≤ 1048576) (h1 : hasMk z1 = false) (h2 : hasB (quo y) z2 = false) :
    Calls Trym.prog 8 #[.int .u8 x, .slice a1 n1 c1, .slice a2 n2 c2, .slice a3 n3 c3, .int .u8 y] w fun e w' => e = .returned (.bool true) ∧ Below w.heap.size w w' := by
  obtain ⟨q, HQ⟩ : ∃ q, Hid (quo y = q) := ⟨_, rfl⟩
  have H1 : Hid (hasMk z1 = false) := h1
  have H2 : Hid (hasB q z2 = false) := by rw [Hid, ← HQ.out]; exact h2
  have HQ2 : Hid (q = 34 ∨ q = 39) := by rw [Hid, ← HQ.out]; exact quo_is y
  have hq0 : 0 ≤ q := by have := HQ2.out; omega
  have hq1 : q ≤ 255 := by have := HQ2.out; omega
  have HE1 : Hid (te ([] ++ [x] ++ z1) = (0, false)) := by rw [Hid, List.nil_append]; exact te_open x z1 h1
  have HE2 : Hid (te ([] ++ [x] ++ z1 ++ [60] ++ z3) = (1 + (n1 : Int), true)) := by
    rw [Hid, List.nil_append, te_nest x z1 z3 h1, r1.len]
    simp
  have HE3 : Hid (te ([] ++ [x] ++ z1 ++ [q] ++ z2) = (0, false)) := by rw [Hid, List.nil_append]; exact te_unc x q z1 z2 HQ2.out h1 H2.out
  have R1 : Hid (Rd w a1 n1 c1 z1) := r1
  have R2 : Hid (Rd w a2 n2 c2 z2) := r2
  have R3 : Hid (Rd w a3 n3 c3 z3) := r3
  obtain ⟨N1, hN1, hN1'⟩ : ∃ N, N ≤ n1 + 1 ∧ n1 + 1 ≤ N := ⟨_, Nat.le_refl _, Nat.le_refl _⟩
  obtain ⟨N2, hN2, hN2'⟩ : ∃ N, N ≤ n1 + n3 + 2 ∧ n1 + n3 + 2 ≤ N := ⟨_, Nat.le_refl _, Nat.le_refl _⟩
  obtain ⟨N3, hN3, hN3'⟩ : ∃ N, N ≤ n1 + n2 + 2 ∧ n1 + n2 + 2 ≤ N := ⟨_, Nat.le_refl _, Nat.le_refl _⟩
  clear r1 r2 r3 h1 h2
  go_enter Trym.func8, Trym.ntmps8
  go_wp2_with fail
  refine (bytes8_yes x y a1 a2 a3 n1 n2 n3 c1 c2 c3 w hs).mono ?_
  rintro e w1 ⟨rfl, rfl⟩
  go_wp2_with fail
  refine (quote_is hy0 hy1 HQ.out).mono ?_
  rintro e w2 ⟨rfl, rfl⟩
  go_wp2_with fail
  refine (mk_any R1.out (by omega) H1.out).mono ?_
  rintro e w3 ⟨rfl, rfl⟩
  go_wp2_with fail
  refine (b_any R2.out (by omega) H2.out).mono ?_
  rintro e w5 ⟨rfl, rfl⟩
  go_wp2_with fail
  refine (clone_any R1.out (by omega)).mono ?_
  rintro e w6 ⟨b1, d1, rfl, s1, l1⟩
  have S1 : Hid (Rd w6 b1 n1 d1 z1) := s1
  clear s1
  go_wp2_with fail
  refine (clone_any (R2.out.later l1) (by omega)).mono ?_
  rintro e w7 ⟨b2, d2, rfl, s2, l2⟩
  have S2 : Hid (Rd w7 b2 n2 d2 z2) := s2
  have L2 := l1.trans (l2.mono l1.size)
  clear s2
  go_wp2_with fail
  refine (clone_any (R3.out.later L2) (by omega)).mono ?_
  rintro e w8 ⟨b3, d3, rfl, s3, l3⟩
  have T3 : Hid (Rd w8 b3 n3 d3 z3) := s3
  have L3 := L2.trans (l3.mono L2.size)
  have T2 : Hid (Rd w8 b2 n2 d2 z2) := S2.out.later l3
  have T1 : Hid (Rd w8 b1 n1 d1 z1) := (S1.out.later l2).later l3
  clear s3 S1 S2 l1 l2 l3 L2 R1 R2 R3
  go_wp2_with (first
    | (at_make; refine buf_make _ rfl _ _ rfl _ N1 rfl rfl (by omega) (by omega) ?_; intro u0 B0)
    | (at_builtin; refine buf_one _ _ rfl (.tmp 65) (.tmp 67) rfl _ _ _ B0 rfl _ ⟨hx0, hx1⟩ rfl (by omega) ?_; intro u1 k1 _ _ _ B1)
    | (at_builtin; refine buf_slice _ _ rfl (.tmp 69) (.tmp 70) rfl _ _ _ B1 rfl _ _ _ _ T1.out rfl (by omega) ?_; intro u2 k2 _ _ _ B2))
  refine (zztag_any B2.rd (by omega) HE1.out).mono ?_
  rintro e v0 ⟨rfl, rfl⟩
  have L4 := L3.trans (B2.below.mono L3.size)
  have V1 : Hid (Rd v0 b1 n1 d1 z1) := T1.out.later B2.below
  have V2 : Hid (Rd v0 b2 n2 d2 z2) := T2.out.later B2.below
  have V3 : Hid (Rd v0 b3 n3 d3 z3) := T3.out.later B2.below
  clear B0 B1 B2 T1 T2 T3 L3 HE1
  go_wp2_with (first
    | (at_make; refine buf_make _ rfl _ _ rfl _ N2 rfl rfl (by omega) (by omega) ?_; intro u3 B3)
    | (at_builtin; refine buf_one _ _ rfl (.tmp 89) (.tmp 91) rfl _ _ _ B3 rfl _ ⟨hx0, hx1⟩ rfl (by omega) ?_; intro u4 k4 _ _ _ B4)
    | (at_builtin; refine buf_slice _ _ rfl (.tmp 93) (.tmp 94) rfl _ _ _ B4 rfl _ _ _ _ V1.out rfl (by omega) ?_; intro u5 k5 _ _ _ B5)
    | (at_builtin; refine buf_one _ _ rfl (.tmp 96) (.tmp 97) rfl _ _ _ B5 rfl _ (by omega) rfl (by omega) ?_; intro u6 k6 _ _ _ B6)
    | (at_builtin; refine buf_slice _ _ rfl (.tmp 99) (.tmp 100) rfl _ _ _ B6 rfl _ _ _ _ V3.out rfl (by omega) ?_; intro u7 k7 _ _ _ B7))
  refine (zztag_any B7.rd (by omega) HE2.out).mono ?_
  rintro e v1 ⟨rfl, rfl⟩
  have L5 := L4.trans (B7.below.mono L4.size)
  have X1 : Hid (Rd v1 b1 n1 d1 z1) := V1.out.later B7.below
  have X2 : Hid (Rd v1 b2 n2 d2 z2) := V2.out.later B7.below
  clear B3 B4 B5 B6 B7 V1 V2 V3 L4 HE2
  go_wp2_with (first
    | (at_make; refine buf_make _ rfl _ _ rfl _ N3 rfl rfl (by omega) (by omega) ?_; intro u8 B8)
    | (at_builtin; refine buf_one _ _ rfl (.tmp 123) (.tmp 125) rfl _ _ _ B8 rfl _ ⟨hx0, hx1⟩ rfl (by omega) ?_; intro u9 k9 _ _ _ B9)
    | (at_builtin; refine buf_slice _ _ rfl (.tmp 127) (.tmp 128) rfl _ _ _ B9 rfl _ _ _ _ X1.out rfl (by omega) ?_; intro u10 k10 _ _ _ B10)
    | (at_builtin; refine buf_one _ _ rfl (.tmp 130) (.tmp 132) rfl _ _ _ B10 rfl _ ⟨hq0, hq1⟩ rfl (by omega) ?_; intro u11 k11 _ _ _ B11)
    | (at_builtin; refine buf_slice _ _ rfl (.tmp 134) (.tmp 135) rfl _ _ _ B11 rfl _ _ _ _ X2.out rfl (by omega) ?_; intro u12 k12 _ _ _ B12))
  refine (zztag_any B12.rd (by omega) HE3.out).mono ?_
  rintro e v2 ⟨rfl, rfl⟩
  have L6 := L5.trans (B12.below.mono L5.size)
  clear B8 B9 B10 B11 B12 X1 X2 HE3
  go_wp2
  go_ret
  exact ⟨by simp, L6⟩

theorem nest_any {x y : Int} {a1 a2 a3 : Option Addr} {n1 n2 n3 c1 c2 c3 : Nat} {z1 z2 z3 : List Int} {w : World}
    (p1 : Rd w a1 n1 c1 z1 ∧ n1 ≤ maxLen) (p2 : Rd w a2 n2 c2 z2 ∧ n2 ≤ maxLen) (p3 : Rd w a3 n3 c3 z3 ∧ n3 ≤ maxLen) (hx : (Lit.int .u8 x).wf = true) (hy : (Lit.int .u8 y).wf = true) :
    Calls Trym.prog 8 #[.int .u8 x, .slice a1 n1 c1, .slice a2 n2 c2, .slice a3 n3 c3, .int .u8 y] w fun e w' => e = .returned (.bool true) ∧ Below w.heap.size w w' := by
  obtain ⟨r1, m1⟩ := p1
  obtain ⟨r2, m2⟩ := p2
  obtain ⟨r3, m3⟩ := p3
  unfold maxLen at m1 m2 m3
  have bx := bounds_u8 hx
  have bY := bounds_u8 hy
  by_cases hs : n1 + n2 + n3 ≤ 1048576
  · by_cases hno : hasMk z1 = true ∨ hasB (quo y) z2 = true
    · exact nest_other r1 r2 bY.1 bY.2 hs hno
    · simp only [not_or, Bool.not_eq_true] at hno
      exact nest_main r1 r2 r3 bx.1 bx.2 bY.1 bY.2 hs hno.1 hno.2
  · exact nest_big x y a1 a2 a3 n1 n2 n3 c1 c2 c3 w m1 m2 m3 (by omega)

end Go.Proofs.Qxb6000676aMods
