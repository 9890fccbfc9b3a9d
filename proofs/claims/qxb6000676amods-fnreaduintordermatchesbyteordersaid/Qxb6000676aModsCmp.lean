/-
  THE WALK OF zzCompareBytes, at two slices of one length.
-/
import Derived.Test.Qxb6000676aModsClone
import Derived.Test.Qxb6000676aModsCmpPlain
import Derived.Deep.QuietTactic
import Derived.BigQuiet
namespace Go.Proofs.Qxb6000676aMods
open Go.RowKit

set_option maxHeartbeats 400000 in
theorem cmp_zero (a b : Option Addr) (ca cb : Nat) (w : World) :
    Calls Trym.prog 14 #[.slice a 0 ca, .slice b 0 cb] w fun e w' => e = .returned (.int .i64 0) ∧ Below w.heap.size w w' := by
  go_enter Trym.func14, Trym.ntmps14
  go_wp2
  refine wp_loop_rounds 1 ?_
  rw [rounds_succ]
  go_wp2
  go_ret
  exact ⟨rfl, Below.refl _ _⟩

theorem take_succ_same {aa bb : List Int} {n k : Nat} (ha : aa.length = n) (hb : bb.length = n) (hk : k < n) (h : aa.take k = bb.take k) (he : aa.getD k 0 = bb.getD k 0) : aa.take (k + 1) = bb.take (k + 1) := by
  have ka : k < aa.length := by omega
  have kb : k < bb.length := by omega
  rw [List.take_succ_eq_append_getElem ka, List.take_succ_eq_append_getElem kb, h]
  have : aa[k] = bb[k] := by simpa [List.getD, ka, kb] using he
  rw [this]

set_option maxHeartbeats 800000 in
theorem cmp_some (b1 o1 c1 b2 o2 c2 n : Nat) (aa bb : List Int) (w : World) (hn : n ≤ 1048576) (hla : aa.length = n) (hlb : bb.length = n)
    (hc1 : ∀ i, i < n → w.cell? ⟨b1, o1 + i, none⟩ = some (.int .u8 (aa.getD i 0))) (hc2 : ∀ i, i < n → w.cell? ⟨b2, o2 + i, none⟩ = some (.int .u8 (bb.getD i 0))) :
    Calls Trym.prog 14 #[.slice (some ⟨b1, o1, none⟩) n c1, .slice (some ⟨b2, o2, none⟩) n c2] w fun e w' => e = .returned (.int .i64 (cmpl aa bb)) ∧ Below w.heap.size w w' := by
  have HA : Hid (aa.length = n) := hla
  have HB : Hid (bb.length = n) := hlb
  clear hla hlb
  go_enter Trym.func14, Trym.ntmps14
  go_wp2
  go_loopw [6] (fun i wr => ∃ k : Nat, k ≤ n ∧ i = .int .i64 k ∧ Hid (aa.take k = bb.take k) ∧ Below w.heap.size w wr) (fun i _ => n - (intOf i).toNat)
  case atStart => exact ⟨0, Nat.zero_le _, rfl, rfl, Below.refl _ _⟩
  case round =>
    obtain ⟨k, hk, rfl, hE, hbel⟩ := hrel
    by_cases hlt : k < n
    · obtain ⟨x, hx⟩ : ∃ x, x = aa.getD k 0 := ⟨_, rfl⟩
      obtain ⟨y, hy⟩ : ∃ y, y = bb.getD k 0 := ⟨_, rfl⟩
      have g1 : wr.cell? ⟨b1, o1 + k, none⟩ = some (.int .u8 x) := by rw [hx]; exact cell_later hbel (hc1 k hlt)
      have g2 : wr.cell? ⟨b2, o2 + k, none⟩ = some (.int .u8 y) := by rw [hy]; exact cell_later hbel (hc2 k hlt)
      have HX : Hid (x = aa.getD k 0) := hx
      have HY : Hid (y = bb.getD k 0) := hy
      clear hx hy hc1 hc2
      by_cases h1 : x < y
      · go_wp2
        go_quiet (fail)
        go_wp2
        go_ret
        exact ⟨ret_int (cmpl_lt k aa bb hE.out (by have := HA.out; omega) (by have := HB.out; omega) (by rw [← HX.out, ← HY.out]; exact h1)).symm, below_drewN hbel _⟩
      · by_cases h2 : y < x
        · go_wp2
          go_quiet (fail)
          go_wp2
          go_quiet (fail)
          go_wp2
          go_ret
          exact ⟨ret_int (cmpl_gt k aa bb hE.out (by have := HA.out; omega) (by have := HB.out; omega) (by rw [← HX.out, ← HY.out]; exact h2)).symm, below_drewN (below_drewN hbel _) _⟩
        · have hE' : Hid (aa.take (k + 1) = bb.take (k + 1)) := take_succ_same HA.out HB.out hlt hE.out (by rw [← HX.out, ← HY.out]; omega)
          go_wp2
          go_quiet (fail)
          go_wp2
          go_quiet (fail)
          go_wp2
          go_roundw
          case rel => exact ⟨k + 1, by omega, by go_num, hE', below_drewN hbel _⟩
          case measure => simp [intOf]; omega
    · go_wp2
      go_ret
      have e : aa = bb := by
        have h1 := hE.out
        rwa [List.take_of_length_le (by have := HA.out; omega), List.take_of_length_le (by have := HB.out; omega)] at h1
      subst e
      exact ⟨ret_int (cmpl_same aa).symm, hbel⟩

/-- zzCompareBytes, at two slices of one length of at most 2^20. -/
theorem cmp_any {a b : Option Addr} {n c1 c2 : Nat} {aa bb : List Int} {w : World} (ha : Rd w a n c1 aa) (hb : Rd w b n c2 bb) (hn : n ≤ 1048576) :
    Calls Trym.prog 14 #[.slice a n c1, .slice b n c2] w fun e w' => e = .returned (.int .i64 (cmpl aa bb)) ∧ Below w.heap.size w w' := by
  by_cases h0 : n = 0
  · subst h0
    have : aa = [] := List.eq_nil_of_length_eq_zero ha.len
    subst this
    have : bb = [] := List.eq_nil_of_length_eq_zero hb.len
    subst this
    exact cmp_zero a b c1 c2 w
  · obtain ⟨b1, o1, rfl, hc1⟩ := ha.at' (by omega)
    obtain ⟨b2, o2, rfl, hc2⟩ := hb.at' (by omega)
    exact cmp_some b1 o1 c1 b2 o2 c2 n aa bb w hn ha.len hb.len hc1 hc2

end Go.Proofs.Qxb6000676aMods
