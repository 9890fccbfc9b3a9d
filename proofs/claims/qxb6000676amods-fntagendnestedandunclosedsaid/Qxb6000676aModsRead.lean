/-
  THE WALK OF readUint AND OF ITS SHIM: on every slice of bytes that can be read it answers 'ru bs', and nothing turns.
-/
import Derived.Test.Qxb6000676aModsView
import Derived.Test.Qxb6000676aModsPlain
import Derived.WalkSpells
import Derived.WalkLawsBesides
namespace Go.Proofs.Qxb6000676aMods
open Go.RowKit

/-- 'v<<8 | uint64(c)', as the walk writes it. -/
theorem step_read (v x : Int) (hx : 0 ≤ x ∧ x ≤ 255) : bits .or .u64 (IntKind.u64.wrap (v * 256)) (IntKind.u64.wrap x) = rus v x := by
  rw [IntKind.wrap_u64, IntKind.wrap_u64]
  have hx2 : x % 18446744073709551616 = x := by omega
  rw [hx2, u64_or _ _ (by omega) (by omega) (by omega) (by omega), nat_join 8 _ _ (by omega) (by omega)]
  unfold rus
  omega

theorem ret_int {k : IntKind} {a b : Int} (h : a = b) : Ending.returned (.int k a) = .returned (.int k b) := by rw [h]

theorem ru_take_succ (bs : List Int) (k : Nat) (h : k < bs.length) : ru (bs.take (k + 1)) = rus (ru (bs.take k)) bs[k] := by
  rw [List.take_succ_eq_append_getElem h, ru_snoc]

set_option maxHeartbeats 400000 in
theorem read_some (b off n c : Nat) (bs : List Int) (w : World) (hn : n ≤ 9223372036854775807) (hl : bs.length = n) (hf : Bytes bs)
    (hc : ∀ i, i < n → w.cell? ⟨b, off + i, none⟩ = some (.int .u8 (bs.getD i 0))) :
    Calls Trym.prog 22 #[.slice (some ⟨b, off, none⟩) n c] w fun e w' => e = .returned (.int .u64 (ru bs)) ∧ w' = w := by
  go_enter Trym.func22, Trym.ntmps22
  go_wp2
  go_loop [3, 8] (fun v i => ∃ k : Nat, k ≤ n ∧ i = .int .i64 k ∧ v = .int .u64 (ru (bs.take k))) (fun _ i => n - (intOf i).toNat)
  case atStart => exact ⟨0, Nat.zero_le _, rfl, rfl⟩
  case round =>
    obtain ⟨k, hk, rfl, rfl⟩ := hrel
    by_cases hlt : k < n
    · have hcell := hc k hlt
      have HL : Hid (bs.length = n) := hl
      have hkb : k < bs.length := by omega
      clear hc
      go_wp2
      go_round
      case rel => exact ⟨k + 1, by omega, by go_num, by rw [step_read _ _ (hf _ (List.getElem_mem hkb)), ru_take_succ bs k hkb]⟩
      case measure => simp [intOf]; omega
    · go_wp2
      go_ret
      exact ⟨ret_int (by rw [List.take_of_length_le (by omega)]), rfl⟩

set_option maxHeartbeats 400000 in
theorem read_zero (a : Option Addr) (c : Nat) (w : World) :
    Calls Trym.prog 22 #[.slice a 0 c] w fun e w' => e = .returned (.int .u64 (ru [])) ∧ w' = w := by
  go_enter Trym.func22, Trym.ntmps22
  go_wp2
  refine wp_loop_rounds 1 ?_
  rw [rounds_succ]
  go_wp2
  go_ret
  exact ⟨ret_int rfl, rfl⟩

theorem read_any {a : Option Addr} {n c : Nat} {bs : List Int} {w : World} (h : Rd w a n c bs) (hn : n ≤ 9223372036854775807) :
    Calls Trym.prog 22 #[.slice a n c] w fun e w' => e = .returned (.int .u64 (ru bs)) ∧ w' = w := by
  by_cases h0 : n = 0
  · subst h0
    have : bs = [] := List.eq_nil_of_length_eq_zero h.len
    subst this
    exact read_zero a c w
  · obtain ⟨b, off, rfl, hc⟩ := h.at' (by omega)
    exact read_some b off n c bs w hn h.len h.fits hc

set_option maxHeartbeats 400000 in
theorem zzread_any {a : Option Addr} {n c : Nat} {bs : List Int} {w : World} (h : Rd w a n c bs) (hn : n ≤ 9223372036854775807) :
    Calls Trym.prog 11 #[.slice a n c] w fun e w' => e = .returned (.int .u64 (ru bs)) ∧ w' = w := by
  go_enter Trym.func11, Trym.ntmps11
  go_wp2_with (go_at_call 22; refine (read_any h hn).mono ?_; rintro e w' ⟨rfl, rfl⟩)
  go_ret
  exact ⟨rfl, rfl⟩

end Go.Proofs.Qxb6000676aMods
