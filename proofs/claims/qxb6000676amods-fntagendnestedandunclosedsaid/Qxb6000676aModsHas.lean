/-
  THE WALKS OF zzHasMarkup, zzHasByte, zzQuote.
-/
import Derived.Test.Qxb6000676aModsClone
import Derived.Test.Qxb6000676aModsTagPlain
namespace Go.Proofs.Qxb6000676aMods
open Go.RowKit

def quo (sel : Int) : Int := if sel % 2 = 0 then 34 else 39
theorem quo_is (sel : Int) : quo sel = 34 ∨ quo sel = 39 := by unfold quo; split <;> simp

set_option maxHeartbeats 400000 in
theorem quote_any (sel : Int) (w : World) (h0 : 0 ≤ sel) (h1 : sel ≤ 255) :
    Calls Trym.prog 18 #[.int .u8 sel] w fun e w' => e = .returned (.int .u8 (quo sel)) ∧ w' = w := by
  by_cases h : sel % 2 = 0
  · have hq : 34 = quo sel := by simp [quo, h]
    go_enter Trym.func18, Trym.ntmps18
    go_wp2
    go_ret
    exact ⟨ret_int hq, rfl⟩
  · have hq : 39 = quo sel := by simp [quo, h]
    go_enter Trym.func18, Trym.ntmps18
    go_wp2
    go_ret
    exact ⟨ret_int hq, rfl⟩

theorem has_drop_at {bb : List Int} {n k : Nat} {c : Int} (hl : bb.length = n) (hk : k < n) (hc : c = bb.getD k 0) : bb.drop k = c :: bb.drop (k + 1) := by
  have kb : k < bb.length := by omega
  rw [hc, List.drop_eq_getElem_cons kb]
  simp [List.getD, kb]

theorem hasMk_hit (c : Int) (t : List Int) (h : c = 60 ∨ c = 62 ∨ c = 34 ∨ c = 39) : hasMk (c :: t) = true := by
  have : mk c = true := by simpa [mk] using h
  simp [hasMk, this]
theorem hasMk_miss (c : Int) (t : List Int) (h : ¬ (c = 60 ∨ c = 62 ∨ c = 34 ∨ c = 39)) : hasMk (c :: t) = hasMk t := by
  have : mk c = false := by simpa [mk] using h
  simp [hasMk, this]
theorem hasB_hit (q : Int) (t : List Int) : hasB q (q :: t) = true := by simp [hasB]
theorem hasB_miss (q c : Int) (t : List Int) (h : ¬ c = q) : hasB q (c :: t) = hasB q t := by simp [hasB, h]

set_option maxHeartbeats 400000 in
theorem mk_zero (a : Option Addr) (c : Nat) (w : World) :
    Calls Trym.prog 19 #[.slice a 0 c] w fun e w' => e = .returned (.bool false) ∧ w' = w := by
  go_enter Trym.func19, Trym.ntmps19
  go_wp2
  refine wp_loop_rounds 1 ?_
  rw [rounds_succ]
  go_wp2
  go_ret
  exact ⟨rfl, rfl⟩

set_option maxHeartbeats 400000 in
theorem b_zero (a : Option Addr) (c : Nat) (q : Int) (w : World) :
    Calls Trym.prog 20 #[.slice a 0 c, .int .u8 q] w fun e w' => e = .returned (.bool false) ∧ w' = w := by
  go_enter Trym.func20, Trym.ntmps20
  go_wp2
  refine wp_loop_rounds 1 ?_
  rw [rounds_succ]
  go_wp2
  go_ret
  exact ⟨rfl, rfl⟩

set_option maxHeartbeats 1000000 in
theorem mk_some (b off n cp : Nat) (bb : List Int) (v : Bool) (w : World) (hn : n ≤ 9223372036854775806) (hl : bb.length = n) (hE : hasMk bb = v)
    (hc : ∀ i, i < n → w.cell? ⟨b, off + i, none⟩ = some (.int .u8 (bb.getD i 0))) :
    Calls Trym.prog 19 #[.slice (some ⟨b, off, none⟩) n cp] w fun e w' => e = .returned (.bool v) ∧ w' = w := by
  have HL : Hid (bb.length = n) := hl
  have HE : Hid (hasMk bb = v) := hE
  clear hl hE
  go_enter Trym.func19, Trym.ntmps19
  go_wp2
  go_loop [3] (fun i => ∃ k : Nat, k ≤ n ∧ i = .int .i64 k ∧ Hid (hasMk (bb.drop k) = v)) (fun i => n - (intOf i).toNat)
  case atStart => exact ⟨0, Nat.zero_le _, rfl, HE⟩
  case round =>
    obtain ⟨k, hk, rfl, HT⟩ := hrel
    by_cases hlt : k < n
    · obtain ⟨c, hcc⟩ : ∃ c, c = bb.getD k 0 := ⟨_, rfl⟩
      have hcell : w.cell? ⟨b, off + k, none⟩ = some (.int .u8 c) := by rw [hcc]; exact hc k hlt
      have HD : Hid (hasMk (c :: bb.drop (k + 1)) = v) := by
        have := HT.out
        rwa [has_drop_at HL.out hlt hcc] at this
      clear hcc hc HT HE
      by_cases hm : c = 60 ∨ c = 62 ∨ c = 34 ∨ c = 39
      · have hv := HD.out
        rw [hasMk_hit c _ hm] at hv
        subst hv
        rcases hm with rfl | rfl | rfl | rfl
        all_goals
          go_wp2
          go_ret
          exact ⟨rfl, rfl⟩
      · have HT : Hid (hasMk (bb.drop (k + 1)) = v) := by rw [Hid, ← HD.out]; exact (hasMk_miss c _ hm).symm
        have m1 : (c == 60) = false := by simp; omega
        have m2 : (c == 62) = false := by simp; omega
        have m3 : (c == 34) = false := by simp; omega
        have m4 : (c == 39) = false := by simp; omega
        clear hm
        go_wp2
        go_round
        case rel => exact ⟨k + 1, by omega, by go_num, HT⟩
        case measure => simp [intOf]; omega
    · have hr := HT.out
      rw [List.drop_eq_nil_of_le (by have := HL.out; omega)] at hr
      have hr' : false = v := hr
      subst hr'
      go_wp2
      go_ret
      exact ⟨rfl, rfl⟩

set_option maxHeartbeats 1000000 in
theorem b_some (b off n cp : Nat) (q : Int) (bb : List Int) (v : Bool) (w : World) (hn : n ≤ 9223372036854775806) (hl : bb.length = n) (hE : hasB q bb = v)
    (hc : ∀ i, i < n → w.cell? ⟨b, off + i, none⟩ = some (.int .u8 (bb.getD i 0))) :
    Calls Trym.prog 20 #[.slice (some ⟨b, off, none⟩) n cp, .int .u8 q] w fun e w' => e = .returned (.bool v) ∧ w' = w := by
  have HL : Hid (bb.length = n) := hl
  have HE : Hid (hasB q bb = v) := hE
  clear hl hE
  go_enter Trym.func20, Trym.ntmps20
  go_wp2
  go_loop [5] (fun i => ∃ k : Nat, k ≤ n ∧ i = .int .i64 k ∧ Hid (hasB q (bb.drop k) = v)) (fun i => n - (intOf i).toNat)
  case atStart => exact ⟨0, Nat.zero_le _, rfl, HE⟩
  case round =>
    obtain ⟨k, hk, rfl, HT⟩ := hrel
    by_cases hlt : k < n
    · obtain ⟨c, hcc⟩ : ∃ c, c = bb.getD k 0 := ⟨_, rfl⟩
      have hcell : w.cell? ⟨b, off + k, none⟩ = some (.int .u8 c) := by rw [hcc]; exact hc k hlt
      have HD : Hid (hasB q (c :: bb.drop (k + 1)) = v) := by
        have := HT.out
        rwa [has_drop_at HL.out hlt hcc] at this
      clear hcc hc HT HE
      by_cases hm : c = q
      · subst hm
        have hv := HD.out
        rw [hasB_hit] at hv
        subst hv
        go_wp2
        go_ret
        exact ⟨rfl, rfl⟩
      · have HT : Hid (hasB q (bb.drop (k + 1)) = v) := by rw [Hid, ← HD.out]; exact (hasB_miss q c _ hm).symm
        go_wp2
        go_round
        case rel => exact ⟨k + 1, by omega, by go_num, HT⟩
        case measure => simp [intOf]; omega
    · have hr := HT.out
      rw [List.drop_eq_nil_of_le (by have := HL.out; omega)] at hr
      have hr' : false = v := hr
      subst hr'
      go_wp2
      go_ret
      exact ⟨rfl, rfl⟩

theorem mk_any {a : Option Addr} {n c : Nat} {bb : List Int} {v : Bool} {w : World} (h : Rd w a n c bb) (hn : n ≤ 9223372036854775806) (hE : hasMk bb = v) :
    Calls Trym.prog 19 #[.slice a n c] w fun e w' => e = .returned (.bool v) ∧ w' = w := by
  by_cases h0 : n = 0
  · subst h0
    have : bb = [] := List.eq_nil_of_length_eq_zero h.len
    subst this
    have hE' : false = v := hE
    subst hE'
    exact mk_zero a c w
  · obtain ⟨b, off, rfl, hc⟩ := h.at' (by omega)
    exact mk_some b off n c bb v w hn h.len hE hc

theorem b_any {a : Option Addr} {n c : Nat} {q : Int} {bb : List Int} {v : Bool} {w : World} (h : Rd w a n c bb) (hn : n ≤ 9223372036854775806) (hE : hasB q bb = v) :
    Calls Trym.prog 20 #[.slice a n c, .int .u8 q] w fun e w' => e = .returned (.bool v) ∧ w' = w := by
  by_cases h0 : n = 0
  · subst h0
    have : bb = [] := List.eq_nil_of_length_eq_zero h.len
    subst this
    have hE' : false = v := hE
    subst hE'
    exact b_zero a c q w
  · obtain ⟨b, off, rfl, hc⟩ := h.at' (by omega)
    exact b_some b off n c q bb v w hn h.len hE hc

end Go.Proofs.Qxb6000676aMods
