/-
  THE WALK OF FnReadUintLastEightBytesModel.
-/
import Derived.Test.Qxb6000676aModsClone
namespace Go.Proofs.Qxb6000676aMods
open Go.RowKit

/-- 'want += uint64(b[n-1-k]) << (8 * uint(k))', as the walk writes it. -/
theorem step_ws {bs : List Int} {n k : Nat} (hl : bs.length = n) (hf : Bytes bs) (h8 : k < 8) (hk : k < n) :
    IntKind.u64.wrap (ws bs k + IntKind.u64.wrap (IntKind.u64.wrap (bs[n - 1 - k]?.getD 0) * 2 ^ (8 * k))) = ws bs (k + 1) := by
  have hs := ws_succ bs k (by omega)
  have hb := ws_bd bs hf k
  have hx : 0 ≤ bs[n - 1 - k]?.getD 0 ∧ bs[n - 1 - k]?.getD 0 ≤ 255 := by
    have : n - 1 - k < bs.length := by omega
    simpa [this] using hf _ (List.getElem_mem this)
  rw [hl] at hs
  simp only [List.getD] at hs
  have hp : (2 : Int) ^ (8 * k) = 256 ^ k := by rw [Int.pow_mul]; rfl
  have hP : (1 : Int) ≤ 256 ^ k ∧ (256 : Int) ^ k * 256 ≤ 18446744073709551616 := by
    have h1 : ((1 : Nat) : Int) ≤ ((256 ^ k : Nat) : Int) := by exact_mod_cast Nat.one_le_pow _ _ (by omega)
    have h2 : ((256 ^ (k + 1) : Nat) : Int) ≤ ((256 ^ 8 : Nat) : Int) := by exact_mod_cast Nat.pow_le_pow_right (by omega) (by omega)
    have h3 : ((256 ^ 8 : Nat) : Int) = 18446744073709551616 := by decide
    rw [h3, Nat.pow_succ] at h2
    simp at h1 h2
    exact ⟨h1, h2⟩
  rw [hp, hs, IntKind.wrap_u64, IntKind.wrap_u64, IntKind.wrap_u64]
  generalize bs[n - 1 - k]?.getD 0 = x at *
  generalize (256 : Int) ^ k = P at *
  have hxm : x % 18446744073709551616 = x := by omega
  have h4 : 0 ≤ x * P := Int.mul_nonneg hx.1 (by omega)
  have h5 : x * P ≤ 255 * P := Int.mul_le_mul_of_nonneg_right hx.2 (by omega)
  rw [hxm, Int.emod_eq_of_lt h4 (by omega), Int.emod_eq_of_lt (by omega) (by omega)]

theorem ws_end {bs : List Int} {n k : Nat} (hl : bs.length = n) (hf : Bytes bs) (h8 : k ≤ 8) (hk : k ≤ n) (he : ¬ (k < 8 ∧ k < n)) : ws bs k = ru bs := by
  rw [ru_ws bs hf]
  by_cases h : k = 8
  · rw [h]
  · obtain rfl : k = bs.length := by omega
    rw [ws_all bs 8 (by omega)]

set_option maxHeartbeats 400000 in
theorem last8_big (a : Option Addr) (n c : Nat) (w : World) (hn : n ≤ 9223372036854775807) (hbig : 1048576 < n) :
    Calls Trym.prog 3 #[.slice a n c] w fun e w' => e = .returned (.bool true) ∧ Below w.heap.size w w' := by
  go_enter Trym.func3, Trym.ntmps3
  go_wp2
  go_ret
  exact ⟨rfl, Below.refl _ _⟩

set_option maxHeartbeats 800000 in
theorem last8_small {a : Option Addr} {n c : Nat} {bs : List Int} {w : World} (h : Rd w a n c bs) (hn : n ≤ 1048576) :
    Calls Trym.prog 3 #[.slice a n c] w fun e w' => e = .returned (.bool true) ∧ Below w.heap.size w w' := by
  have hf : Bytes bs := h.fits
  have HL : Hid (bs.length = n) := h.len
  go_enter Trym.func3, Trym.ntmps3
  go_wp2_with (first | (go_at_call 10; refine (clone_any h hn).mono ?_; rintro e w1 ⟨a1, c1, rfl, r1, b1⟩) | (go_at_call 11; refine (zzread_any r1 (by omega)).mono ?_; rintro e w' ⟨rfl, rfl⟩) | (go_at_call 9; go_in))
  go_loop [4, 6] (fun v i => ∃ k : Nat, k ≤ 8 ∧ k ≤ n ∧ i = .int .i64 k ∧ v = .int .u64 (ws bs k)) (fun _ i => 8 - (intOf i).toNat)
  case atStart => exact ⟨0, Nat.zero_le _, Nat.zero_le _, rfl, rfl⟩
  case round =>
    obtain ⟨k, hk, hkn, rfl, rfl⟩ := hrel
    by_cases hlt : k < 8 ∧ k < n
    · obtain ⟨h8, hlt⟩ := hlt
      obtain ⟨b, off, rfl, hc⟩ := r1.at' (by omega)
      have hcell := hc (n - 1 - k) (by omega)
      clear hc
      go_wp2
      go_round
      case rel => exact ⟨k + 1, by omega, by omega, by go_num, by rw [step_ws HL.out hf h8 hlt]⟩
      case measure => simp [intOf]; omega
    · have HE : Hid (ws bs k = ru bs) := ws_end HL.out hf hk hkn hlt
      have hlt' : k = 8 ∨ (k < 8 ∧ n ≤ k) := by omega
      clear hlt
      rcases hlt' with rfl | ⟨h8, hge⟩
      all_goals
        go_wp2
        go_ret
        refine ⟨?_, b1⟩
        have hE := HE.out
        simp [hE]

theorem last8_any {a : Option Addr} {n c : Nat} {bs : List Int} {w : World} (h : Rd w a n c bs) (hn : n ≤ maxLen) :
    Calls Trym.prog 3 #[.slice a n c] w fun e w' => e = .returned (.bool true) ∧ Below w.heap.size w w' := by
  unfold maxLen at hn
  by_cases hb : n ≤ 1048576
  · exact last8_small h hb
  · exact last8_big a n c w hn (by omega)

end Go.Proofs.Qxb6000676aMods
