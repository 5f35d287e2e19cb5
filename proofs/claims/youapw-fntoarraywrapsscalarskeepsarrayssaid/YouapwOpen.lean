/-
  THE SEAT ouap. From a reading of an argument ([]string, []bool) to a View of it.
-/
import Derived.Test.YouapwViews
import Derived.ProofKit
import Derived.Deep.Grids
namespace Go.Proofs.Youapw
open Go.ChangeShapes Go.WideShapes Go.ChangeAt Go.RowKit

theorem Uapg.own : ownKnob Uapg.prog.godebug = none := by kernel_rfl
theorem Uapg.laidOut : laidOutB Uapg.prog = true := by kernel_rfl
theorem Uapg.cells9 : Uapg.prog.cellsOf 9 = 1 := by kernel_rfl
theorem Uapg.cells4 : Uapg.prog.cellsOf 4 = 1 := by kernel_rfl

theorem view_of_cells {W : World} {a : Addr} {len m : Nat} {f : Nat → Value} (hl : len ≤ m) (hcell : ∀ i, i < m → W.cell? (a.add i) = some (f i)) (hlt : ∀ x ∈ MemPlace.row a m, x.block < W.heap.size) : View W (some a) len f := by
  by_cases h0 : len = 0
  · exact Or.inl h0
  · obtain ⟨b, off, spot⟩ := a
    have hspot : spot = none := by simpa [Addr.add] using World.cell?_spot (hcell 0 (by omega))
    subst hspot
    have hbW : b < W.heap.size := hlt (.cell b off) (MemPlace.mem_row.2 ⟨0, by omega, by simp⟩)
    exact Or.inr ⟨b, off, rfl, hbW, fun j hj => by rw [← add_plain]; exact hcell j (by omega)⟩

theorem view_strings {H : Type} {enc : TypeId × Value → H} {W : World} {ad : Option Addr} {len cap : Nat} {d : DataW H} {ps : List MemPlace}
    (h : DataW.Trod enc Uapg.prog W 0 (fun _ => true) true 22 (.slice ad len cap) d ps) (hlt : ∀ x ∈ ps, x.block < W.heap.size) : len ≤ maxLen ∧ ∃ s : Nat → ByteArray, View W ad len (fun j => .string (s j)) := by
  obtain ⟨fuel, hf⟩ := h
  rcases open_strings Uapg.underlying22 Uapg.underlying9 Uapg.cells9 hf with ⟨hcs, hx⟩ | ⟨a, len', cap', ss, hcs, _, hl, hm, hz, hx, hcell, hws⟩
  · simp [Value.cells] at hcs
    obtain ⟨rfl, rfl, rfl⟩ := hcs
    exact ⟨Nat.zero_le _, fun _ => ByteArray.empty, Or.inl rfl⟩
  · simp [Value.cells] at hcs
    obtain ⟨rfl, rfl, rfl⟩ := hcs
    simp only [Prod.mk.injEq] at hx
    obtain ⟨rfl, rfl⟩ := hx
    simp only [if_true] at hz
    exact ⟨Nat.le_trans hl hm, fun j => ss.getD j ByteArray.empty, view_of_cells (by omega) hcell hlt⟩

theorem view_bools {H : Type} {enc : TypeId × Value → H} {W : World} {ad : Option Addr} {len cap : Nat} {d : DataW H} {ps : List MemPlace}
    (h : DataW.Trod enc Uapg.prog W 0 (fun _ => true) true 36 (.slice ad len cap) d ps) (hlt : ∀ x ∈ ps, x.block < W.heap.size) : len ≤ maxLen ∧ ∃ p : Nat → Bool, View W ad len (fun j => .bool (p j)) := by
  obtain ⟨fuel, hf⟩ := h
  rcases Deep.open_bools Uapg.underlying36 Uapg.underlying4 Uapg.cells4 hf with ⟨hcs, hx⟩ | ⟨a, len', cap', B, hcs, _, hl, hm, hx, hcell⟩
  · simp [Value.cells] at hcs
    obtain ⟨rfl, rfl, rfl⟩ := hcs
    exact ⟨Nat.zero_le _, fun _ => false, Or.inl rfl⟩
  · simp [Value.cells] at hcs
    obtain ⟨rfl, rfl, rfl⟩ := hcs
    simp only [Prod.mk.injEq] at hx
    obtain ⟨rfl, rfl⟩ := hx
    exact ⟨Nat.le_trans hl hm, B, view_of_cells hl hcell hlt⟩

end Go.Proofs.Youapw
