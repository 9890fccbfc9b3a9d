/-
  WHAT THE WALKS ARE TOLD OF A SLICE OF BYTES, WHEREVER IT LIES: 'Rd w a n c bs'. No walk here.
-/
import Derived.Test.Qxb6000676aModsProg
import Derived.WalkKit
import Derived.OpenShut
namespace Go.Proofs.Qxb6000676aMods
open Go.RowKit

theorem info5 : (Trym.prog.info? 5).map (fun i => (i.zero, i.size, i.bytes)) = some (some (.int .u8 0), 1, 1) := by kernel_rfl

/-- The slice value '.slice a n c' reads, in the world w, as the bytes 'bs'. -/
structure Rd (w : World) (a : Option Addr) (n c : Nat) (bs : List Int) : Prop where
  len : bs.length = n
  fits : ∀ x ∈ bs, 0 ≤ x ∧ x ≤ 255
  cap : n ≤ c
  nil : a = none → n = 0 ∧ c = 0
  at' : 0 < n → ∃ b off, a = some ⟨b, off, none⟩ ∧ ∀ i, i < n → w.cell? ⟨b, off + i, none⟩ = some (.int .u8 (bs.getD i 0))

theorem Rd.zero (w : World) : Rd w none 0 0 [] := ⟨rfl, by simp, Nat.le_refl _, fun _ => ⟨rfl, rfl⟩, fun h => absurd h (by omega)⟩

/-- Old cells stay: a slice reads as it did in every later world. -/
theorem Rd.later {w w' : World} {a : Option Addr} {n c : Nat} {bs : List Int} (h : Rd w a n c bs) (hb : Below w.heap.size w w') : Rd w' a n c bs := by
  refine ⟨h.len, h.fits, h.cap, h.nil, fun hn => ?_⟩
  obtain ⟨b, off, ha, hc⟩ := h.at' hn
  refine ⟨b, off, ha, fun i hi => ?_⟩
  have := hc i hi
  rw [hb.cell (World.block_lt_of_cell? w _ this)]
  exact this

/-- From the shell's own word on an argument. -/
theorem Rd.ofRow {w : World} {a : Option Addr} {len cap : Nat} {zs : List Int}
    (h : (a = none ∧ len = 0 ∧ cap = 0 ∧ zs = []) ∨ ∃ x, a = some x ∧ len ≤ cap ∧ cap ≤ maxLen ∧ zs.length = cap ∧ (∀ i, i < zs.length → w.cell? (x.add i) = some (.int .u8 (zs.getD i 0))) ∧ ∀ n ∈ zs, (Lit.int .u8 n).wf = true) :
    Rd w a len cap (zs.take len) ∧ len ≤ maxLen := by
  rcases h with ⟨rfl, rfl, rfl, rfl⟩ | ⟨x, rfl, hl, hm, hz, hcell, hwz⟩
  · exact ⟨Rd.zero w, Nat.zero_le _⟩
  · refine ⟨⟨by simp; omega, fun n hn => ?_, hl, (fun h => by cases h), fun h0 => ?_⟩, by omega⟩
    · exact bounds_u8 (hwz n (List.mem_of_mem_take hn))
    · obtain ⟨b, off, spot⟩ := x
      have hc := hcell 0 (by omega)
      have hspot : spot = none := by simpa [Addr.add] using World.cell?_spot hc
      subst hspot
      refine ⟨b, off, rfl, fun i hi => ?_⟩
      have := hcell i (by omega)
      rw [Addr.add_lit] at this
      rw [this]
      simp [List.getD, hi]

end Go.Proofs.Qxb6000676aMods
