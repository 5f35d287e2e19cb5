/-
  THE SEAT ouap. Views of slices in memory, rows that a call makes, and how both stand to 'Below'. No walk here.
-/
import Derived.Test.YouapwRows
import Derived.WalkKit
import Derived.WalkSpells
import Derived.WalkLawsBesides
import Derived.Deep.OwnRows
import Derived.Lib.SliceRun
namespace Go.Proofs.Youapw
open Go.RowKit

/-- The slice at 'ad' of n one-cell elements reads f 0 .. f (n-1), in memory that stands already. -/
def View (w : World) (ad : Option Addr) (n : Nat) (f : Nat → Value) : Prop :=
  n = 0 ∨ ∃ b off, ad = some ⟨b, off, none⟩ ∧ b < w.heap.size ∧ ∀ j, j < n → w.cell? ⟨b, off + j, none⟩ = some (f j)

theorem View.below {w w' : World} {B : Nat} {ad : Option Addr} {n : Nat} {f : Nat → Value} (h : View w ad n f) (hb : Below B w w') (hB : w.heap.size ≤ B) : View w' ad n f := by
  rcases h with h | ⟨b, off, e, hlt, hc⟩
  · exact Or.inl h
  · exact Or.inr ⟨b, off, e, Nat.lt_of_lt_of_le hlt hb.size, fun j hj => (hb.cell (p := ⟨b, off + j, none⟩) (Nat.lt_of_lt_of_le hlt hB)).trans (hc j hj)⟩

theorem View.congr {w : World} {ad : Option Addr} {n : Nat} {f g : Nat → Value} (h : View w ad n f) (hfg : ∀ j, j < n → f j = g j) : View w ad n g := by
  rcases h with h | ⟨b, off, e, hlt, hc⟩
  · exact Or.inl h
  · exact Or.inr ⟨b, off, e, hlt, fun j hj => by rw [hc j hj, hfg j hj]⟩

/-- At an element: the address, and the cell. -/
theorem View.look {w : World} {ad : Option Addr} {n : Nat} {f : Nat → Value} (h : View w ad n f) {k : Nat} (hk : k < n) : ∃ b off, ad = some ⟨b, off, none⟩ ∧ b < w.heap.size ∧ ∀ j, j < n → w.cell? ⟨b, off + j, none⟩ = some (f j) := by
  rcases h with h | h
  · omega
  · exact h

/-- Block b of the world is a row of n cells that can be written, cell j holding f j. -/
def Row (w : World) (b n : Nat) (f : Nat → Value) : Prop :=
  b < w.heap.size ∧ ∀ j, j < n → w.cell? ⟨b, j, none⟩ = some (f j) ∧ w.frozen? ⟨b, j, none⟩ = false

theorem Row.view {w : World} {b n : Nat} {f : Nat → Value} (h : Row w b n f) : View w (some ⟨b, 0, none⟩) n f :=
  Or.inr ⟨b, 0, rfl, h.1, fun j hj => by rw [Nat.zero_add]; exact (h.2 j hj).1⟩

theorem Row.congr {w : World} {b n : Nat} {f g : Nat → Value} (h : Row w b n f) (hfg : ∀ j, j < n → f j = g j) : Row w b n g :=
  ⟨h.1, fun j hj => ⟨by rw [(h.2 j hj).1, hfg j hj], (h.2 j hj).2⟩⟩

theorem Row.made (w : World) (z : Value) (n : Nat) (t : TypeId) : Row (w.alloc (.cells (madeCells #[z] n) t)) w.heap.size n (fun _ => z) := by
  refine ⟨by simp, fun j hj => ⟨?_, ?_⟩⟩
  · rw [World.cell?_alloc_new]; simp [madeCells, hj, Nat.mod_one]
  · exact World.frozen?_alloc_new _ _ _ _

theorem Row.below {w w' : World} {B b n : Nat} {f : Nat → Value} (h : Row w b n f) (hb : Below B w w') (hB : b < B) : Row w' b n f :=
  ⟨Nat.lt_of_lt_of_le h.1 hb.size, fun j hj => ⟨(hb.cell (p := ⟨b, j, none⟩) hB).trans (h.2 j hj).1, (hb.frozen (p := ⟨b, j, none⟩) hB).trans (h.2 j hj).2⟩⟩

/-- One store into a row. -/
theorem Row.put {w : World} {b n : Nat} {f : Nat → Value} (h : Row w b n f) {k : Nat} (hk : k < n) (v : Value) : Row (w.setCell ⟨b, k, none⟩ v) b n (fun j => if j = k then v else f j) := by
  refine ⟨by simpa [World.setCell] using h.1, fun j hj => ⟨?_, ?_⟩⟩
  · by_cases e : j = k
    · subst e
      show _ = some (if j = j then v else f j)
      rw [if_pos rfl]
      exact World.cell?_setCell_same _ _ _ (h.2 j hj).1
    · show _ = some (if j = k then v else f j)
      rw [if_neg e, World.cell?_setCell_other w ⟨b, k, none⟩ ⟨b, j, none⟩ v (fun q => e (congrArg Addr.off q).symm)]
      exact (h.2 j hj).1
  · rw [World.frozen?_setCell]; exact (h.2 j hj).2

/-- A store into another block. -/
theorem Row.setOther {w : World} {b n : Nat} {f : Nat → Value} (h : Row w b n f) {c k : Nat} (hc : c ≠ b) (v : Value) : Row (w.setCell ⟨c, k, none⟩ v) b n f := by
  refine ⟨by simpa [World.setCell] using h.1, fun j hj => ⟨?_, ?_⟩⟩
  · rw [World.cell?_setCell_other w ⟨c, k, none⟩ ⟨b, j, none⟩ v (fun q => hc (congrArg Addr.block q))]
    exact (h.2 j hj).1
  · rw [World.frozen?_setCell]; exact (h.2 j hj).2

theorem Row.alloc {w : World} {b n : Nat} {f : Nat → Value} (h : Row w b n f) (o : Obj) : Row (w.alloc o) b n f :=
  h.below (B := w.heap.size) ((Below.refl _ _).alloc (Nat.le_refl _) o) h.1

/-! The type assertions that the roads meet: closed facts. Types: 9 string, 23 float64, 46 slice of interfaces. -/
theorem Uapg.as9_9 (v : Value) (w : World) : (Instr.typeAssert (.iface 9 v) 20 9 true).run Uapg.prog w = .ok (.tuple #[v, .bool true]) w := by kernel_rfl
theorem Uapg.as9_46 (v : Value) (w : World) : (Instr.typeAssert (.iface 9 v) 20 46 true).run Uapg.prog w = .ok (.tuple #[.slice none 0 0, .bool false]) w := by kernel_rfl
theorem Uapg.as23_46 (v : Value) (w : World) : (Instr.typeAssert (.iface 23 v) 20 46 true).run Uapg.prog w = .ok (.tuple #[.slice none 0 0, .bool false]) w := by kernel_rfl
theorem Uapg.as23_23 (v : Value) (w : World) : (Instr.typeAssert (.iface 23 v) 20 23 true).run Uapg.prog w = .ok (.tuple #[v, .bool true]) w := by kernel_rfl
theorem Uapg.as46_46 (v : Value) (w : World) : (Instr.typeAssert (.iface 46 v) 20 46 true).run Uapg.prog w = .ok (.tuple #[v, .bool true]) w := by kernel_rfl

theorem ret_int {k : IntKind} {a b : Int} (h : a = b) : Ending.returned (.int k a) = .returned (.int k b) := by rw [h]
theorem ret_bool {a b : Bool} (h : a = b) : Ending.returned (.bool a) = .returned (.bool b) := by rw [h]

end Go.Proofs.Youapw
