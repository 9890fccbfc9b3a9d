/-
  THE WALK OF FnTagEndSkipsQuotedText.
-/
import Derived.Test.Qxb6000676aModsBuf
import Derived.Test.Qxb6000676aModsTag
import Derived.Test.Qxb6000676aModsHas
namespace Go.Proofs.Qxb6000676aMods
open Go.RowKit

/-- The bound on the total length is passed. -/
theorem bytes7_no (x y : Int) (a1 a2 a3 a4 : Option Addr) (n1 n2 n3 n4 c1 c2 c3 c4 : Nat) (w : World) (h1 : n1 ≤ 9223372036854775807) (h2 : n2 ≤ 9223372036854775807) (h3 : n3 ≤ 9223372036854775807) (h4 : n4 ≤ 9223372036854775807)
    (hbig : 1048576 < n1 + n2 + n3 + n4) :
    Calls Trym.prog 17 #[.int .u8 x, .slice a1 n1 c1, .slice a2 n2 c2, .slice a3 n3 c3, .slice a4 n4 c4, .int .u8 y] w fun e w' => e = .returned (.bool false) ∧ w' = w := by
  by_cases t1 : 1048576 < n1
  · go_enter Trym.func17, Trym.ntmps17
    go_wp2
    go_ret
    exact ⟨rfl, rfl⟩
  · by_cases t2 : 1048576 < n2
    · go_enter Trym.func17, Trym.ntmps17
      go_wp2
      go_ret
      exact ⟨rfl, rfl⟩
    · by_cases t12 : 1048576 < n1 + n2
      · go_enter Trym.func17, Trym.ntmps17
        go_wp2
        go_ret
        exact ⟨rfl, rfl⟩
      · by_cases t3 : 1048576 < n3
        · go_enter Trym.func17, Trym.ntmps17
          go_wp2
          go_ret
          exact ⟨rfl, rfl⟩
        · by_cases t13 : 1048576 < n1 + n2 + n3
          · go_enter Trym.func17, Trym.ntmps17
            go_wp2
            go_ret
            exact ⟨rfl, rfl⟩
          · by_cases t4 : 1048576 < n4
            · go_enter Trym.func17, Trym.ntmps17
              go_wp2
              go_ret
              exact ⟨rfl, rfl⟩
            · go_enter Trym.func17, Trym.ntmps17
              go_wp2
              go_ret
              exact ⟨rfl, rfl⟩

theorem bytes7_yes (x y : Int) (a1 a2 a3 a4 : Option Addr) (n1 n2 n3 n4 c1 c2 c3 c4 : Nat) (w : World) (hs : n1 + n2 + n3 + n4 ≤ 1048576) :
    Calls Trym.prog 17 #[.int .u8 x, .slice a1 n1 c1, .slice a2 n2 c2, .slice a3 n3 c3, .slice a4 n4 c4, .int .u8 y] w fun e w' => e = .returned (.bool true) ∧ w' = w := by
  go_enter Trym.func17, Trym.ntmps17
  go_wp2
  go_ret
  exact ⟨rfl, rfl⟩

set_option maxHeartbeats 400000 in
theorem skips_big (x y : Int) (a1 a2 a3 a4 : Option Addr) (n1 n2 n3 n4 c1 c2 c3 c4 : Nat) (w : World) (h1 : n1 ≤ 9223372036854775807) (h2 : n2 ≤ 9223372036854775807) (h3 : n3 ≤ 9223372036854775807) (h4 : n4 ≤ 9223372036854775807)
    (hbig : 1048576 < n1 + n2 + n3 + n4) :
    Calls Trym.prog 7 #[.int .u8 x, .slice a1 n1 c1, .slice a2 n2 c2, .slice a3 n3 c3, .slice a4 n4 c4, .int .u8 y] w fun e w' => e = .returned (.bool true) ∧ Below w.heap.size w w' := by
  go_enter Trym.func7, Trym.ntmps7
  go_wp2_with fail
  refine (bytes7_no x y a1 a2 a3 a4 n1 n2 n3 n4 c1 c2 c3 c4 w h1 h2 h3 h4 hbig).mono ?_
  rintro e w' ⟨rfl, rfl⟩
  go_wp2
  go_ret
  exact ⟨rfl, Below.refl _ _⟩

theorem quote_val {sel q : Int} {w : World} (h0 : 0 ≤ sel) (h1 : sel ≤ 255) (h : quo sel = q) :
    Calls Trym.prog 18 #[.int .u8 sel] w fun e w' => e = .returned (.int .u8 q) ∧ w' = w := by
  subst h
  exact quote_any sel w h0 h1

set_option maxHeartbeats 1000000 in
theorem skips_other {x y : Int} {a1 a2 a3 a4 : Option Addr} {n1 n2 n3 n4 c1 c2 c3 c4 : Nat} {z1 z2 z3 : List Int} {w : World} (r1 : Rd w a1 n1 c1 z1) (r2 : Rd w a2 n2 c2 z2) (r3 : Rd w a3 n3 c3 z3)
    (hy0 : 0 ≤ y) (hy1 : y ≤ 255) (hs : n1 + n2 + n3 + n4 ≤ 1048576) (hno : hasMk z1 = true ∨ hasMk z3 = true ∨ hasB (quo y) z2 = true) :
    Calls Trym.prog 7 #[.int .u8 x, .slice a1 n1 c1, .slice a2 n2 c2, .slice a3 n3 c3, .slice a4 n4 c4, .int .u8 y] w fun e w' => e = .returned (.bool true) ∧ Below w.heap.size w w' := by
  obtain ⟨q, HQ⟩ : ∃ q, Hid (quo y = q) := ⟨_, rfl⟩
  obtain ⟨v1, H1⟩ : ∃ v, Hid (hasMk z1 = v) := ⟨_, rfl⟩
  obtain ⟨v3, H3⟩ : ∃ v, Hid (hasMk z3 = v) := ⟨_, rfl⟩
  obtain ⟨v2, H2⟩ : ∃ v, Hid (hasB q z2 = v) := ⟨_, rfl⟩
  rw [HQ.out, H1.out, H3.out, H2.out] at hno
  have R1 : Hid (Rd w a1 n1 c1 z1) := r1
  have R2 : Hid (Rd w a2 n2 c2 z2) := r2
  have R3 : Hid (Rd w a3 n3 c3 z3) := r3
  clear r1 r2 r3
  go_enter Trym.func7, Trym.ntmps7
  go_wp2_with fail
  refine (bytes7_yes x y a1 a2 a3 a4 n1 n2 n3 n4 c1 c2 c3 c4 w hs).mono ?_
  rintro e w1 ⟨rfl, rfl⟩
  go_wp2_with fail
  refine (quote_val hy0 hy1 HQ.out).mono ?_
  rintro e w2 ⟨rfl, rfl⟩
  go_wp2_with fail
  refine (mk_any R1.out (by omega) H1.out).mono ?_
  rintro e w3 ⟨rfl, rfl⟩
  cases v1 with
  | true =>
    go_wp2
    go_ret
    exact ⟨rfl, Below.refl _ _⟩
  | false =>
    go_wp2_with fail
    refine (mk_any R3.out (by omega) H3.out).mono ?_
    rintro e w4 ⟨rfl, rfl⟩
    cases v3 with
    | true =>
      go_wp2
      go_ret
      exact ⟨rfl, Below.refl _ _⟩
    | false =>
      have hv2 : v2 = true := by simpa using hno
      subst hv2
      clear hno
      go_wp2_with fail
      refine (b_any R2.out (by omega) H2.out).mono ?_
      rintro e w5 ⟨rfl, rfl⟩
      go_wp2
      go_ret
      exact ⟨rfl, Below.refl _ _⟩

set_option maxHeartbeats 2000000 in
theorem skips_main {x y : Int} {a1 a2 a3 a4 : Option Addr} {n1 n2 n3 n4 c1 c2 c3 c4 : Nat} {z1 z2 z3 z4 : List Int} {w : World} (r1 : Rd w a1 n1 c1 z1) (r2 : Rd w a2 n2 c2 z2) (r3 : Rd w a3 n3 c3 z3) (r4 : Rd w a4 n4 c4 z4)
    (hx0 : 0 ≤ x) (hx1 : x ≤ 255) (hy0 : 0 ≤ y) (hy1 : y ≤ 255) (hs : n1 + n2 + n3 + n4 ≤ 1048576) (h1 : hasMk z1 = false) (h3 : hasMk z3 = false) (h2 : hasB (quo y) z2 = false) :
    Calls Trym.prog 7 #[.int .u8 x, .slice a1 n1 c1, .slice a2 n2 c2, .slice a3 n3 c3, .slice a4 n4 c4, .int .u8 y] w fun e w' => e = .returned (.bool true) ∧ Below w.heap.size w w' := by
  obtain ⟨q, HQ⟩ : ∃ q, Hid (quo y = q) := ⟨_, rfl⟩
  have H1 : Hid (hasMk z1 = false) := h1
  have H3 : Hid (hasMk z3 = false) := h3
  have H2 : Hid (hasB q z2 = false) := by rw [Hid, ← HQ.out]; exact h2
  have HQ2 : Hid (q = 34 ∨ q = 39) := by rw [Hid, ← HQ.out]; exact quo_is y
  have hq0 : 0 ≤ q := by have := HQ2.out; omega
  have hq1 : q ≤ 255 := by have := HQ2.out; omega
  have R1 : Hid (Rd w a1 n1 c1 z1) := r1
  have R2 : Hid (Rd w a2 n2 c2 z2) := r2
  have R3 : Hid (Rd w a3 n3 c3 z3) := r3
  have R4 : Hid (Rd w a4 n4 c4 z4) := r4
  obtain ⟨N, hN1, hN2⟩ : ∃ N, N ≤ n1 + n2 + n3 + n4 + 4 ∧ n1 + n2 + n3 + n4 + 4 ≤ N := ⟨_, Nat.le_refl _, Nat.le_refl _⟩
  clear r1 r2 r3 r4 h1 h2 h3
  go_enter Trym.func7, Trym.ntmps7
  go_wp2_with fail
  refine (bytes7_yes x y a1 a2 a3 a4 n1 n2 n3 n4 c1 c2 c3 c4 w hs).mono ?_
  rintro e w1 ⟨rfl, rfl⟩
  go_wp2_with fail
  refine (quote_val hy0 hy1 HQ.out).mono ?_
  rintro e w2 ⟨rfl, rfl⟩
  go_wp2_with fail
  refine (mk_any R1.out (by omega) H1.out).mono ?_
  rintro e w3 ⟨rfl, rfl⟩
  go_wp2_with fail
  refine (mk_any R3.out (by omega) H3.out).mono ?_
  rintro e w4 ⟨rfl, rfl⟩
  go_wp2_with fail
  refine (b_any R2.out (by omega) H2.out).mono ?_
  rintro e w5 ⟨rfl, rfl⟩
  go_wp2_with fail
  refine (clone_any R1.out (by omega)).mono ?_
  rintro e w6 ⟨b1, d1, rfl, s1, l1⟩
  have S1 : Hid (Rd w6 b1 n1 d1 z1) := s1
  clear s1
  go_wp2_with fail
  refine (clone_any (R2.out.later l1) (by omega)).mono ?_
  rintro e w7 ⟨b2, d2, rfl, s2, l2⟩
  have S2 : Hid (Rd w7 b2 n2 d2 z2) := s2
  have L2 := l1.trans (l2.mono l1.size)
  clear s2
  go_wp2_with fail
  refine (clone_any (R3.out.later L2) (by omega)).mono ?_
  rintro e w8 ⟨b3, d3, rfl, s3, l3⟩
  have S3 : Hid (Rd w8 b3 n3 d3 z3) := s3
  have L3 := L2.trans (l3.mono L2.size)
  clear s3
  go_wp2_with fail
  refine (clone_any (R4.out.later L3) (by omega)).mono ?_
  rintro e w9 ⟨b4, d4, rfl, s4, l4⟩
  have S4 : Hid (Rd w9 b4 n4 d4 z4) := s4
  have L4 := L3.trans (l4.mono L3.size)
  have T3 : Hid (Rd w9 b3 n3 d3 z3) := S3.out.later l4
  have T2 : Hid (Rd w9 b2 n2 d2 z2) := (S2.out.later l3).later l4
  have T1 : Hid (Rd w9 b1 n1 d1 z1) := ((S1.out.later l2).later l3).later l4
  clear s4 S1 S2 S3 l1 l2 l3 l4 L2 L3 R1 R2 R3 R4
  go_wp2_with (first
    | (at_make; refine buf_make _ rfl _ _ rfl _ N rfl rfl (by omega) (by omega) ?_; intro u0 B0)
    | (at_builtin; refine buf_one _ _ rfl (.tmp 90) (.tmp 92) rfl _ _ _ B0 rfl _ ⟨hx0, hx1⟩ rfl (by omega) ?_; intro u1 k1 _ _ _ B1)
    | (at_builtin; refine buf_slice _ _ rfl (.tmp 94) (.tmp 95) rfl _ _ _ B1 rfl _ _ _ _ T1.out rfl (by omega) ?_; intro u2 k2 _ _ _ B2)
    | (at_builtin; refine buf_one _ _ rfl (.tmp 97) (.tmp 99) rfl _ _ _ B2 rfl _ ⟨hq0, hq1⟩ rfl (by omega) ?_; intro u3 k3 _ _ _ B3)
    | (at_builtin; refine buf_slice _ _ rfl (.tmp 101) (.tmp 102) rfl _ _ _ B3 rfl _ _ _ _ T2.out rfl (by omega) ?_; intro u4 k4 _ _ _ B4)
    | (at_builtin; refine buf_one _ _ rfl (.tmp 104) (.tmp 106) rfl _ _ _ B4 rfl _ ⟨hq0, hq1⟩ rfl (by omega) ?_; intro u5 k5 _ _ _ B5)
    | (at_builtin; refine buf_slice _ _ rfl (.tmp 108) (.tmp 109) rfl _ _ _ B5 rfl _ _ _ _ T3.out rfl (by omega) ?_; intro u6 k6 _ _ _ B6)
    | (at_builtin; refine buf_one _ _ rfl (.tmp 111) (.tmp 112) rfl _ _ _ B6 rfl _ (by omega) rfl (by omega) ?_; intro u7 k7 _ _ _ B7)
    | (at_builtin; refine buf_slice _ _ rfl (.tmp 116) (.tmp 117) rfl _ _ _ B7 rfl _ _ _ _ S4.out rfl (by omega) ?_; intro u8 k8 _ _ _ B8))
  have hE : te ([] ++ [x] ++ z1 ++ [q] ++ z2 ++ [q] ++ z3 ++ [62] ++ z4) = ((k7 : Int), false) := by
    have hl := B7.len
    rw [List.nil_append] at hl ⊢
    rw [te_skips x q z1 z2 z3 z4 HQ2.out H1.out H2.out H3.out, hl]
  refine (zztag_any B8.rd (by omega) hE).mono ?_
  rintro e w' ⟨rfl, rfl⟩
  have LL := L4.trans (B8.below.mono L4.size)
  clear hE B0 B1 B2 B3 B4 B5 B6 B7 B8
  go_wp2
  go_ret
  exact ⟨by simp, LL⟩

theorem skips_any {x y : Int} {a1 a2 a3 a4 : Option Addr} {n1 n2 n3 n4 c1 c2 c3 c4 : Nat} {z1 z2 z3 z4 : List Int} {w : World}
    (p1 : Rd w a1 n1 c1 z1 ∧ n1 ≤ maxLen) (p2 : Rd w a2 n2 c2 z2 ∧ n2 ≤ maxLen) (p3 : Rd w a3 n3 c3 z3 ∧ n3 ≤ maxLen) (p4 : Rd w a4 n4 c4 z4 ∧ n4 ≤ maxLen) (hx : (Lit.int .u8 x).wf = true) (hy : (Lit.int .u8 y).wf = true) :
    Calls Trym.prog 7 #[.int .u8 x, .slice a1 n1 c1, .slice a2 n2 c2, .slice a3 n3 c3, .slice a4 n4 c4, .int .u8 y] w fun e w' => e = .returned (.bool true) ∧ Below w.heap.size w w' := by
  obtain ⟨r1, m1⟩ := p1
  obtain ⟨r2, m2⟩ := p2
  obtain ⟨r3, m3⟩ := p3
  obtain ⟨r4, m4⟩ := p4
  unfold maxLen at m1 m2 m3 m4
  have bx := bounds_u8 hx
  have bY := bounds_u8 hy
  by_cases hs : n1 + n2 + n3 + n4 ≤ 1048576
  · by_cases hno : hasMk z1 = true ∨ hasMk z3 = true ∨ hasB (quo y) z2 = true
    · exact skips_other r1 r2 r3 bY.1 bY.2 hs hno
    · simp only [not_or, Bool.not_eq_true] at hno
      exact skips_main r1 r2 r3 r4 bx.1 bx.2 bY.1 bY.2 hs hno.1 hno.2.1 hno.2.2
  · exact skips_big x y a1 a2 a3 a4 n1 n2 n3 n4 c1 c2 c3 c4 w m1 m2 m3 m4 (by omega)

end Go.Proofs.Qxb6000676aMods
