/-
  THE WALKS OF tagEnd AND OF ITS SHIM.
-/
import Derived.Test.Qxb6000676aModsClone
import Derived.Test.Qxb6000676aModsTagPlain
namespace Go.Proofs.Qxb6000676aMods
open Go.RowKit

theorem drop_at {bb : List Int} {n k : Nat} {c : Int} (hl : bb.length = n) (hk : k < n) (hc : c = bb.getD k 0) : bb.drop k = c :: bb.drop (k + 1) := by
  have kb : k < bb.length := by omega
  rw [hc, List.drop_eq_getElem_cons kb]
  simp [List.getD, kb]

set_option maxHeartbeats 400000 in
theorem tag_zero (a : Option Addr) (c : Nat) (w : World) :
    Calls Trym.prog 23 #[.slice a 0 c] w fun e w' => e = .returned (.tuple #[.int .i64 0, .bool false]) ∧ w' = w := by
  go_enter Trym.func23, Trym.ntmps23
  go_wp2
  refine wp_loop_rounds 1 ?_
  rw [rounds_succ]
  go_wp2
  go_ret2
  exact ⟨rfl, rfl⟩

set_option maxHeartbeats 1000000 in
theorem tag_some (b off n cp : Nat) (bb : List Int) (E : Int) (N : Bool) (w : World) (hn : n ≤ 9223372036854775806) (h1n : 1 ≤ n) (hl : bb.length = n) (hE : te bb = (E, N))
    (hc : ∀ i, i < n → w.cell? ⟨b, off + i, none⟩ = some (.int .u8 (bb.getD i 0))) :
    Calls Trym.prog 23 #[.slice (some ⟨b, off, none⟩) n cp] w fun e w' => e = .returned (.tuple #[.int .i64 E, .bool N]) ∧ w' = w := by
  have HL : Hid (bb.length = n) := hl
  have HE : Hid (te bb = (E, N)) := hE
  clear hl hE
  go_enter Trym.func23, Trym.ntmps23
  go_wp2
  go_loop [4, 5] (fun v i => ∃ (q : Int) (k : Nat), 1 ≤ k ∧ k ≤ n ∧ v = .int .u8 q ∧ i = .int .i64 k ∧ Hid (tg (bb.drop k) q k = (E, N))) (fun _ i => n - (intOf i).toNat)
  case atStart => exact ⟨0, 1, Nat.le_refl _, h1n, rfl, rfl, HE⟩
  case round =>
    obtain ⟨q, k, hk1, hk, rfl, rfl, HT⟩ := hrel
    by_cases hlt : k < n
    · obtain ⟨c, hcc⟩ : ∃ c, c = bb.getD k 0 := ⟨_, rfl⟩
      have hcell : w.cell? ⟨b, off + k, none⟩ = some (.int .u8 c) := by rw [hcc]; exact hc k hlt
      have HD : Hid (tg (c :: bb.drop (k + 1)) q k = (E, N)) := by
        have := HT.out
        rwa [drop_at HL.out hlt hcc] at this
      clear hcc hc HT HE
      by_cases hq : q = 0
      · subst hq
        by_cases c1 : c = 34
        · subst c1
          have HT : Hid (tg (bb.drop (k + 1)) 34 (k + 1) = (E, N)) := by rw [Hid, ← HD.out]; exact (tg_quote 34 _ _ (.inl rfl)).symm
          go_wp2
          go_round
          case rel => exact ⟨34, k + 1, by omega, by omega, rfl, by go_num, HT⟩
          case measure => simp [intOf]; omega
        · by_cases c2 : c = 39
          · subst c2
            have HT : Hid (tg (bb.drop (k + 1)) 39 (k + 1) = (E, N)) := by rw [Hid, ← HD.out]; exact (tg_quote 39 _ _ (.inr rfl)).symm
            go_wp2
            go_round
            case rel => exact ⟨39, k + 1, by omega, by omega, rfl, by go_num, HT⟩
            case measure => simp [intOf]; omega
          · by_cases c3 : c = 60
            · subst c3
              have hr := HD.out
              rw [tg_nested] at hr
              simp only [Prod.mk.injEq] at hr
              obtain ⟨rfl, rfl⟩ := hr
              go_wp2
              go_ret2
              exact ⟨rfl, rfl⟩
            · by_cases c4 : c = 62
              · subst c4
                have hr := HD.out
                rw [tg_end] at hr
                simp only [Prod.mk.injEq] at hr
                obtain ⟨rfl, rfl⟩ := hr
                go_wp2
                go_ret2
                exact ⟨rfl, rfl⟩
              · have HT : Hid (tg (bb.drop (k + 1)) 0 (k + 1) = (E, N)) := by rw [Hid, ← HD.out]; exact (tg_plain c _ _ c1 c2 c3 c4).symm
                go_wp2
                go_round
                case rel => exact ⟨0, k + 1, by omega, by omega, rfl, by go_num, HT⟩
                case measure => simp [intOf]; omega
      · by_cases hcq : c = q
        · have HT : Hid (tg (bb.drop (k + 1)) 0 (k + 1) = (E, N)) := by rw [Hid, ← HD.out]; exact (tg_shut c _ q _ hq hcq).symm
          subst hcq
          go_wp2
          go_round
          case rel => exact ⟨0, k + 1, by omega, by omega, rfl, by go_num, HT⟩
          case measure => simp [intOf]; omega
        · have HT : Hid (tg (bb.drop (k + 1)) q (k + 1) = (E, N)) := by rw [Hid, ← HD.out]; exact (tg_in c _ q _ hq hcq).symm
          go_wp2
          go_round
          case rel => exact ⟨q, k + 1, by omega, by omega, rfl, by go_num, HT⟩
          case measure => simp [intOf]; omega
    · have hr := HT.out
      rw [List.drop_eq_nil_of_le (by have := HL.out; omega)] at hr
      simp only [tg, Prod.mk.injEq] at hr
      obtain ⟨rfl, rfl⟩ := hr
      go_wp2
      go_ret2
      exact ⟨rfl, rfl⟩

theorem tag_any {a : Option Addr} {n c : Nat} {bb : List Int} {E : Int} {N : Bool} {w : World} (h : Rd w a n c bb) (hn : n ≤ 9223372036854775806) (hE : te bb = (E, N)) :
    Calls Trym.prog 23 #[.slice a n c] w fun e w' => e = .returned (.tuple #[.int .i64 E, .bool N]) ∧ w' = w := by
  by_cases h0 : n = 0
  · subst h0
    have : bb = [] := List.eq_nil_of_length_eq_zero h.len
    subst this
    have hE' : ((0 : Int), false) = (E, N) := hE
    simp only [Prod.mk.injEq] at hE'
    obtain ⟨rfl, rfl⟩ := hE'
    exact tag_zero a c w
  · obtain ⟨b, off, rfl, hc⟩ := h.at' (by omega)
    exact tag_some b off n c bb E N w hn (by omega) h.len hE hc

set_option maxHeartbeats 400000 in
/-- The shim ZZtagEnd. -/
theorem zztag_any {a : Option Addr} {n c : Nat} {bb : List Int} {E : Int} {N : Bool} {w : World} (h : Rd w a n c bb) (hn : n ≤ 9223372036854775806) (hE : te bb = (E, N)) :
    Calls Trym.prog 16 #[.slice a n c] w fun e w' => e = .returned (.tuple #[.int .i64 E, .bool N]) ∧ w' = w := by
  have HE : Hid (te bb = (E, N)) := hE
  clear hE
  go_enter Trym.func16, Trym.ntmps16
  go_wp2_with (go_at_call 23; refine (tag_any h hn HE.out).mono ?_; rintro e w' ⟨rfl, rfl⟩)
  go_ret2
  exact ⟨rfl, rfl⟩

end Go.Proofs.Qxb6000676aMods
