/-
  THE WALK OF zzClone: a fresh slice that reads as the one that came in; nothing old has turned.
-/
import Derived.Test.Qxb6000676aModsRead
namespace Go.Proofs.Qxb6000676aMods
open Go.RowKit

/-- What a slice that the call owns reads as. -/
theorem Rd.own {w : World} {base g n cap : Nat} {xs : List Int} (h : w.ownsRow base 5 1 (.slice (some ⟨g, 0, none⟩) n cap) n (xs.map (Value.int .u8))) (hf : Bytes xs) : Rd w (some ⟨g, 0, none⟩) n cap xs := by
  have hl : xs.length = n := by simpa using h.1
  refine ⟨hl, hf, ?_, (fun h => by cases h), fun _ => ⟨g, 0, rfl, fun i hi => ?_⟩⟩
  · rcases h.2 with ⟨h', _⟩ | ⟨g', cap', cur, h', _, _, hnc, _⟩
    · simp at h'
    · simp only [Value.slice.injEq, Option.some.injEq, Addr.mk.injEq, and_true, true_and] at h'
      omega
  · rw [Nat.zero_add, h.cellAt i (by omega)]
    simp [List.getD, show i < xs.length by omega]

set_option maxHeartbeats 400000 in
theorem clone_nil (w : World) :
    Calls Trym.prog 10 #[.slice none 0 0] w fun e w' => e = .returned (.slice none 0 0) ∧ w' = w := by
  have he := fun w => Lib.run_eql_slice_nil (P := Trym.prog) w 22 5 none 0 0 0 0 Trym.underlying22
  go_enter Trym.func10, Trym.ntmps10
  go_wp2
  go_ret
  exact ⟨rfl, rfl⟩

/-- The clone's cells behind k rounds. -/
def half (bs : List Int) (k : Nat) : List Int := bs.take k ++ List.replicate (bs.length - k) 0

theorem half_zero (bs : List Int) : half bs 0 = List.replicate bs.length 0 := by simp [half]
theorem half_all (bs : List Int) : half bs bs.length = bs := by simp [half]
theorem half_len (bs : List Int) (k : Nat) (h : k ≤ bs.length) : (half bs k).length = bs.length := by
  rw [half, List.length_append, List.length_take, List.length_replicate]; omega
theorem half_set (bs : List Int) (k : Nat) (h : k < bs.length) : (half bs k).set k bs[k] = half bs (k + 1) := by
  unfold half
  have hr : List.replicate (bs.length - k) (0 : Int) = 0 :: List.replicate (bs.length - (k + 1)) 0 := by
    rw [← List.replicate_succ]; congr 1; omega
  have hl : (bs.take k).length = k := by simp; omega
  rw [hr, List.set_append_right _ _ (by omega), hl, Nat.sub_self, List.set_cons_zero, List.take_succ_eq_append_getElem h, List.append_assoc]
  rfl

theorem made_half (bs : List Int) (n : Nat) (h : bs.length = n) : (madeCells #[Value.int .u8 0] n).toList = (half bs 0).map (Value.int .u8) := by
  rw [half_zero, h, List.map_replicate]
  exact toList_madeCells_one _ _

/-- One round's store. -/
theorem half_store {w : World} {g n : Nat} {bs : List Int} {k : Nat} (hl : bs.length = n) (hk : k < n) (hown : w.ownsRow g 5 1 (.slice (some ⟨g, 0, none⟩) n n) n ((half bs k).map (Value.int .u8))) :
    (w.setCell ⟨g, k, none⟩ (.int .u8 (bs.getD k 0))).ownsRow g 5 1 (.slice (some ⟨g, 0, none⟩) n n) n ((half bs (k + 1)).map (Value.int .u8)) := by
  have h := (hown.stored k (.int .u8 (bs.getD k 0))).1
  rw [← List.map_set] at h
  have e : bs.getD k 0 = bs[k]'(by omega) := by simp [List.getD, show k < bs.length by omega]
  rw [e] at h ⊢
  rwa [half_set bs k (by omega)] at h

theorem half_cell {w : World} {g n : Nat} {bs : List Int} {k : Nat} (hl : bs.length = n) (hk : k < n) (hown : w.ownsRow g 5 1 (.slice (some ⟨g, 0, none⟩) n n) n ((half bs k).map (Value.int .u8))) :
    ∃ z, w.cell? ⟨g, k, none⟩ = some (.int .u8 z) := by
  have := hown.cellAt k (by omega)
  have hh := half_len bs k (by omega)
  exact ⟨(half bs k)[k]'(by omega), by rw [this]; simp [show k < (half bs k).length by omega]⟩

set_option maxHeartbeats 800000 in
theorem clone_some (b off n c : Nat) (bs : List Int) (w : World) (hn : n ≤ 1048576) (hl : bs.length = n)
    (hc : ∀ i, i < n → w.cell? ⟨b, off + i, none⟩ = some (.int .u8 (bs.getD i 0))) :
    Calls Trym.prog 10 #[.slice (some ⟨b, off, none⟩) n c] w fun e w' => e = .returned (.slice (some ⟨w.heap.size, 0, none⟩) n n) ∧
      w'.ownsRow w.heap.size 5 1 (.slice (some ⟨w.heap.size, 0, none⟩) n n) n (bs.map (Value.int .u8)) ∧ Below w.heap.size w w' := by
  have he := fun w => Lib.run_eql_slice_nil (P := Trym.prog) w 22 5 (some ⟨b, off, none⟩) n c 0 0 Trym.underlying22
  obtain ⟨i0, hi, hz0, hz1, hz2⟩ := info_parts info5
  go_enter Trym.func10, Trym.ntmps10
  go_wp2_with (at_make; refine wpList_make_full _ rfl _ _ 22 rfl w.heap.size 5 i0 (.int .u8 0) 1 Trym.underlying22 hi hz0 hz1 _ _ _ _ n rfl rfl (by omega) (by omega) ?b2 ?b3 (Nat.le_refl _) ?_)
  case b2 => rw [hz2]; omega
  case b3 => unfold maxLen; omega
  intro w0 hown0 hgrow0
  rw [made_half bs n hl] at hown0
  go_wp2
  go_loopw [4] (fun i wr => ∃ k : Nat, k ≤ n ∧ i = .int .i64 k ∧ wr.ownsRow w.heap.size 5 1 (.slice (some ⟨w.heap.size, 0, none⟩) n n) n ((half bs k).map (Value.int .u8)) ∧ Below w.heap.size w wr)
    (fun i _ => n - (intOf i).toNat)
  case atStart => exact ⟨0, Nat.zero_le _, rfl, hown0, (Below.refl _ _).grown hgrow0 (Nat.le_refl _) (fun k h => by cases h)⟩
  case round =>
    obtain ⟨k, hk, rfl, hown, hbel⟩ := hrel
    by_cases hlt : k < n
    · have hcell : wr.cell? ⟨b, off + k, none⟩ = some (.int .u8 (bs.getD k 0)) := cell_later hbel (hc k hlt)
      obtain ⟨z, hz⟩ := half_cell hl hlt hown
      have hfr := hown.frozenAt k
      have R := half_store hl hlt hown
      have RB := hbel.setCell (p := ⟨w.heap.size, k, none⟩) (Nat.le_refl _) (.int .u8 (bs.getD k 0))
      have HL : Hid (bs.length = n) := hl
      clear hc hl hown
      go_wp2
      go_roundw
      case rel => exact ⟨k + 1, by omega, by go_num, R, RB⟩
      case measure => simp [intOf]; omega
    · go_wp2
      go_ret
      obtain rfl : k = n := by omega
      rw [← hl, half_all, hl] at hown
      exact ⟨rfl, hown, hbel⟩

set_option maxHeartbeats 800000 in
theorem clone_empty (x : Addr) (c : Nat) (w : World) :
    Calls Trym.prog 10 #[.slice (some x) 0 c] w fun e w' => e = .returned (.slice (some ⟨w.heap.size, 0, none⟩) 0 0) ∧ Below w.heap.size w w' := by
  have he := fun w => Lib.run_eql_slice_nil (P := Trym.prog) w 22 5 (some x) 0 c 0 0 Trym.underlying22
  obtain ⟨i0, hi, hz0, hz1, hz2⟩ := info_parts info5
  go_enter Trym.func10, Trym.ntmps10
  go_wp2_with (at_make; refine wpList_make_full _ rfl _ _ 22 rfl w.heap.size 5 i0 (.int .u8 0) 1 Trym.underlying22 hi hz0 hz1 _ _ _ _ 0 rfl rfl (by omega) (by omega) ?b2 ?b3 (Nat.le_refl _) ?_)
  case b2 => rw [hz2]; omega
  case b3 => unfold maxLen; omega
  intro w0 hown0 hgrow0
  have hb : Below w.heap.size w w0 := (Below.refl _ _).grown hgrow0 (Nat.le_refl _) (fun k h => by cases h)
  clear hown0 hgrow0
  go_wp2
  refine wp_loop_rounds 1 ?_
  rw [rounds_succ]
  go_wp2
  go_ret
  exact ⟨rfl, hb⟩

/-- zzClone, on every slice of at most 2^20 bytes. -/
theorem clone_any {a : Option Addr} {n c : Nat} {bs : List Int} {w : World} (h : Rd w a n c bs) (hn : n ≤ 1048576) :
    Calls Trym.prog 10 #[.slice a n c] w fun e w' => ∃ a' c', e = .returned (.slice a' n c') ∧ Rd w' a' n c' bs ∧ Below w.heap.size w w' := by
  by_cases h0 : n = 0
  · subst h0
    have : bs = [] := List.eq_nil_of_length_eq_zero h.len
    subst this
    match a, h with
    | none, h =>
      obtain ⟨_, rfl⟩ := h.nil rfl
      refine (clone_nil w).mono ?_
      rintro e w' ⟨rfl, rfl⟩
      exact ⟨none, 0, rfl, Rd.zero _, Below.refl _ _⟩
    | some x, h =>
      refine (clone_empty x c w).mono ?_
      rintro e w' ⟨rfl, hb⟩
      exact ⟨_, 0, rfl, ⟨rfl, by simp, Nat.le_refl _, (fun h => by cases h), fun h => absurd h (by omega)⟩, hb⟩
  · obtain ⟨b, off, rfl, hc⟩ := h.at' (by omega)
    refine (clone_some b off n c bs w hn h.len hc).mono ?_
    rintro e w' ⟨rfl, hown, hb⟩
    exact ⟨_, n, rfl, Rd.own hown h.fits, hb⟩

end Go.Proofs.Qxb6000676aMods
