/-
  THE WALK OF FnReadUintOrderMatchesByteOrder.
-/
import Derived.Test.Qxb6000676aModsCmp
namespace Go.Proofs.Qxb6000676aMods
open Go.RowKit

set_option maxHeartbeats 400000 in
theorem order_big (a b : Option Addr) (n m c d : Nat) (w : World) (hn : n ≤ 9223372036854775807) (hm : m ≤ 9223372036854775807) (hbig : 1048576 < n + m) :
    Calls Trym.prog 5 #[.slice a n c, .slice b m d] w fun e w' => e = .returned (.bool true) ∧ Below w.heap.size w w' := by
  by_cases h1 : 1048576 < n
  · go_enter Trym.func5, Trym.ntmps5
    go_wp2
    go_ret
    exact ⟨rfl, Below.refl _ _⟩
  · by_cases h2 : 1048576 < m
    · go_enter Trym.func5, Trym.ntmps5
      go_wp2
      go_ret
      exact ⟨rfl, Below.refl _ _⟩
    · go_enter Trym.func5, Trym.ntmps5
      go_wp2
      go_ret
      exact ⟨rfl, Below.refl _ _⟩

set_option maxHeartbeats 400000 in
theorem order_other (a b : Option Addr) (n m c d : Nat) (w : World) (hs : n + m ≤ 1048576) (hne : ¬ (n = m ∧ n ≤ 8)) :
    Calls Trym.prog 5 #[.slice a n c, .slice b m d] w fun e w' => e = .returned (.bool true) ∧ Below w.heap.size w w' := by
  by_cases h1 : n = m
  · subst h1
    have h8 : 8 < n := by omega
    clear hne
    go_enter Trym.func5, Trym.ntmps5
    go_wp2
    go_ret
    exact ⟨rfl, Below.refl _ _⟩
  · have h1' : ((n : Int) != (m : Int)) = true := by simp; omega
    clear hne
    go_enter Trym.func5, Trym.ntmps5
    go_wp2
    go_ret
    exact ⟨rfl, Below.refl _ _⟩

theorem zzread_is {a : Option Addr} {n c : Nat} {bs : List Int} {w : World} {v : Int} (h : Rd w a n c bs) (hn : n ≤ 9223372036854775807) (hv : ru bs = v) :
    Calls Trym.prog 11 #[.slice a n c] w fun e w' => e = .returned (.int .u64 v) ∧ w' = w := by
  subst hv
  exact zzread_any h hn

theorem cmp_val {a b : Option Addr} {n c1 c2 : Nat} {aa bb : List Int} {w : World} {v : Int} (ha : Rd w a n c1 aa) (hb : Rd w b n c2 bb) (hn : n ≤ 1048576) (hv : cmpl aa bb = v) :
    Calls Trym.prog 14 #[.slice a n c1, .slice b n c2] w fun e w' => e = .returned (.int .i64 v) ∧ Below w.heap.size w w' := by
  subst hv
  exact cmp_any ha hb hn

set_option maxHeartbeats 1000000 in
theorem order_main {a b : Option Addr} {n c d : Nat} {aa bb : List Int} {w : World} (ha : Rd w a n c aa) (hb : Rd w b n d bb) (h8 : n ≤ 8) :
    Calls Trym.prog 5 #[.slice a n c, .slice b n d] w fun e w' => e = .returned (.bool true) ∧ Below w.heap.size w w' := by
  have HR : Hid (Rd w b n d bb) := hb
  obtain ⟨X, HX⟩ : ∃ X, Hid (X = ru aa) := ⟨_, rfl⟩
  obtain ⟨Y, HY⟩ : ∃ Y, Hid (Y = ru bb) := ⟨_, rfl⟩
  obtain ⟨v, HV⟩ : ∃ v, Hid (cmpl aa bb = v) := ⟨_, rfl⟩
  have hlaw : (v = -1 ∧ X < Y) ∨ (v = 1 ∧ Y < X) ∨ (v = 0 ∧ X = Y) := by
    rw [HX.out, HY.out, ← HV.out]
    exact cmpl_ru aa bb n ha.len hb.len h8 ha.fits hb.fits
  clear hb
  rcases hlaw with ⟨rfl, hxy⟩ | ⟨rfl, hxy⟩ | ⟨rfl, rfl⟩
  all_goals
    go_enter Trym.func5, Trym.ntmps5
    go_wp2_with (go_at_call 13; go_in)
    refine (clone_any ha (by omega)).mono ?_
    rintro e w1 ⟨a1, c1, rfl, ra1, b1⟩
    have RA1 : Hid (Rd w1 a1 n c1 aa) := ra1
    clear ra1
    go_wp2_with fail
    refine (clone_any (HR.out.later b1) (by omega)).mono ?_
    rintro e w2 ⟨a2, c2, rfl, rb2, b2⟩
    have RB2 : Hid (Rd w2 a2 n c2 bb) := rb2
    have RA2 : Hid (Rd w2 a1 n c1 aa) := RA1.out.later b2
    clear rb2
    go_wp2_with fail
    refine (cmp_val RA2.out RB2.out (by omega) HV.out).mono ?_
    rintro e w3 ⟨rfl, b3⟩
    go_wp2_with fail
    refine (zzread_is (RA2.out.later b3) (by omega) HX.out.symm).mono ?_
    rintro e w4 ⟨rfl, rfl⟩
    go_wp2_with fail
    refine (zzread_is (RB2.out.later b3) (by omega) HY.out.symm).mono ?_
    rintro e w5 ⟨rfl, rfl⟩
    go_wp2
    go_ret
    exact ⟨by first | rfl | simp | simp [hxy], (b1.trans (b2.mono b1.size)).trans (b3.mono (Nat.le_trans b1.size b2.size))⟩

theorem order_any {a b : Option Addr} {n m c d : Nat} {aa bb : List Int} {w : World} (ha : Rd w a n c aa) (hb : Rd w b m d bb) (hn : n ≤ maxLen) (hm : m ≤ maxLen) :
    Calls Trym.prog 5 #[.slice a n c, .slice b m d] w fun e w' => e = .returned (.bool true) ∧ Below w.heap.size w w' := by
  unfold maxLen at hn hm
  by_cases hs : n + m ≤ 1048576
  · by_cases he : n = m ∧ n ≤ 8
    · obtain ⟨rfl, h8⟩ := he
      exact order_main ha hb h8
    · exact order_other a b n m c d w hs he
  · exact order_big a b n m c d w hn hm (by omega)

end Go.Proofs.Qxb6000676aMods
