/-
  THE WALK OF FnReadUintRoundTripBehindAnyPrefix.
-/
import Derived.Test.Qxb6000676aModsBuf
namespace Go.Proofs.Qxb6000676aMods
open Go.RowKit

/-- The first j of the eight bytes of x, greatest first. -/
def beb (x : Int) (j : Nat) : List Int := (List.range j).map (fun i => x / 2 ^ (8 * (7 - i)) % 256)

theorem beb_len (x : Int) (j : Nat) : (beb x j).length = j := by simp [beb]
theorem beb_succ (x : Int) (j : Nat) : beb x (j + 1) = beb x j ++ [x / 2 ^ (8 * (7 - j)) % 256] := by simp [beb, List.range_succ]
theorem beb_bytes (x : Int) (j : Nat) : Bytes (beb x j) := by
  intro y hy
  simp only [beb, List.mem_map] at hy
  obtain ⟨i, _, rfl⟩ := hy
  omega
theorem beb_val (x : Int) (h0 : 0 ≤ x) (h1 : x < 18446744073709551616) : dl (beb x 8).reverse = x := by
  simp [beb, List.range_succ, dl]
  omega

/-- Eight bytes behind any bytes. -/
theorem ru_behind (p : List Int) (x : Int) (h0 : 0 ≤ x) (h1 : x < 18446744073709551616) : ru (p ++ beb x 8) = x := by
  rw [ru_eq, List.reverse_append, dl_app, beb_val x h0 h1, List.length_reverse, beb_len]
  have h8 : (256 : Int) ^ 8 = 18446744073709551616 := by decide
  rw [h8]
  omega

theorem zzread_val {a : Option Addr} {n c : Nat} {bs : List Int} {w : World} {v : Int} (h : Rd w a n c bs) (hn : n ≤ 9223372036854775807) (hv : ru bs = v) :
    Calls Trym.prog 11 #[.slice a n c] w fun e w' => e = .returned (.int .u64 v) ∧ w' = w := by
  subst hv
  exact zzread_any h hn

/-- 'buf[n:]', the first n bytes being p. -/
theorem Buf.tail {w0 w : World} {n k cap : Nat} {p q : List Int} (h : Buf w0 w k cap (p ++ q)) (hp : p.length = n) : Rd w (some ⟨w0.heap.size, n, none⟩) (k - n) (cap - n) q := by
  have r := h.rd
  have hl := r.len
  rw [List.length_append] at hl
  have hc := r.cap
  refine ⟨by omega, fun x hx => r.fits x (List.mem_append.2 (.inr hx)), by omega, (fun h => by cases h), fun hn => ?_⟩
  obtain ⟨b, off, e, hcell⟩ := r.at' (by omega)
  simp only [Option.some.injEq, Addr.mk.injEq, and_true] at e
  obtain ⟨rfl, rfl⟩ := e
  refine ⟨_, n, rfl, fun i hi => ?_⟩
  have := hcell (n + i) (by omega)
  rw [Nat.zero_add] at this
  rw [this]
  congr 2
  simp [List.getD, List.getElem?_append, hp, show ¬ n + i < n by omega]

set_option maxHeartbeats 400000 in
theorem round_big (a : Option Addr) (n c : Nat) (x : Int) (w : World) (hn : n ≤ 9223372036854775807) (hbig : 1048576 < n) :
    Calls Trym.prog 4 #[.slice a n c, .int .u64 x] w fun e w' => e = .returned (.bool true) ∧ Below w.heap.size w w' := by
  go_enter Trym.func4, Trym.ntmps4
  go_wp2
  go_ret
  exact ⟨rfl, Below.refl _ _⟩

set_option maxHeartbeats 800000 in
theorem round_small {a : Option Addr} {n c : Nat} {bs : List Int} {w : World} (x : Int) (hx0 : 0 ≤ x) (hx1 : x < 18446744073709551616) (h : Rd w a n c bs) (hn : n ≤ 1048576) :
    Calls Trym.prog 4 #[.slice a n c, .int .u64 x] w fun e w' => e = .returned (.bool true) ∧ Below w.heap.size w w' := by
  have hf : Bytes bs := h.fits
  have HL : Hid (bs.length = n) := h.len
  have HX1 : Hid (x < 18446744073709551616) := hx1
  clear hx1
  obtain ⟨N, hN1, hN2⟩ : ∃ N, N ≤ n + 8 ∧ n + 8 ≤ N := ⟨n + 8, Nat.le_refl _, Nat.le_refl _⟩
  go_enter Trym.func4, Trym.ntmps4
  go_wp2_with (first | (go_at_call 10; refine (clone_any h hn).mono ?_; rintro e w1 ⟨a1, c1, rfl, r1, b1⟩) | (go_at_call 12; go_in) | (at_make; refine buf_make _ rfl _ _ rfl _ N rfl rfl (by omega) (by omega) ?_; intro w2 B2) | (at_builtin; refine buf_slice _ _ rfl (.tmp 20) (.tmp 21) rfl _ _ _ B2 rfl _ _ _ _ r1 rfl (by omega) ?_; intro w3 k3 hk3 hk3a hk3b B3))
  simp only [List.nil_append] at B3
  go_loopw [5, 6] (fun v i wr => ∃ j m k : Nat, j + m ≤ 8 ∧ 8 ≤ j + m ∧ k ≤ n + j ∧ n + j ≤ k ∧ i = .int .i64 ((m : Int) - 1) ∧ v = .slice (some ⟨w1.heap.size, 0, none⟩) k N ∧ Buf w1 wr k N (bs ++ beb x j))
    (fun _ i _ => (intOf i + 1).toNat)
  case atStart => exact ⟨0, 8, k3, by omega, by omega, by omega, by omega, rfl, rfl, by simpa [beb] using B3⟩
  case round =>
    obtain ⟨j, m, k, hm1, hm2, hk1, hk2, rfl, rfl, B⟩ := hrel
    match m, hm1, hm2 with
    | 0, hm1, hm2 =>
      obtain rfl : j = 8 := by omega
      have hru := ru_behind bs x hx0 HX1.out
      have RD := B.rd
      have RT : Hid (Rd wr (some ⟨w1.heap.size, n, none⟩) (k - n) (N - n) (beb x 8)) := B.tail HL.out
      clear B2 B3 h
      go_wp2_with fail
      refine (zzread_val RD (by omega) hru).mono ?_
      rintro e w' ⟨rfl, rfl⟩
      clear hru RD
      go_wp2_with fail
      refine (zzread_val RT.out (by omega) (ru_behind [] x hx0 HX1.out)).mono ?_
      rintro e w'' ⟨rfl, rfl⟩
      go_wp2
      go_ret
      exact ⟨by simp, b1.trans (B.below.mono b1.size)⟩
    | p + 1, hm1, hm2 =>
      have ep : ((p + 1 : Nat) : Int) - 1 = (p : Int) := by omega
      rw [ep]
      clear B2 B3 h ep
      go_wp2_with (at_builtin; refine buf_one _ _ rfl (.tmp 27) (.tmp 34) rfl _ _ _ B rfl _ (by omega) rfl (by omega) ?_; intro w4 k4 hk4 hk4a hk4b B4)
      go_roundw
      case rel => exact ⟨j + 1, p, k4, by omega, by omega, by omega, by omega, by go_num, rfl, by rw [beb_succ, ← List.append_assoc, show 7 - j = p by omega]; exact B4⟩
      case measure => simp [intOf]

theorem round_any {a : Option Addr} {n c : Nat} {bs : List Int} {w : World} {x : Int} (hx : (Lit.int .u64 x).wf = true) (h : Rd w a n c bs) (hn : n ≤ maxLen) :
    Calls Trym.prog 4 #[.slice a n c, .int .u64 x] w fun e w' => e = .returned (.bool true) ∧ Below w.heap.size w w' := by
  unfold maxLen at hn
  have hb := bounds_u64 hx
  by_cases hs : n ≤ 1048576
  · exact round_small x hb.1 (by omega) h hs
  · exact round_big a n c x w hn (by omega)

end Go.Proofs.Qxb6000676aMods
