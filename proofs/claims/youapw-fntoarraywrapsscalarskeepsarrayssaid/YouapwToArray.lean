/-
  THE SEAT ouap. jpfToArray, zzStringsIn_b10, zzStringsOut_b10 and the shims above them.
-/
import Derived.Test.YouapwNotNull
import Derived.Deep.QuietTactic
import Derived.BigQuiet
namespace Go.Proofs.Youapw
open Go.RowKit

set_option maxHeartbeats 400000 in
theorem toArray_str (b : Nat) (x : Value) (w : World) (hc : w.cell? ⟨b, 0, none⟩ = some (.iface 9 x)) :
    Calls Uapg.prog 22 #[.slice (some ⟨b, 0, none⟩) 1 1] w fun e w' => e = .returned (.tuple #[.iface 46 (.slice (some ⟨b, 0, none⟩) 1 1), .nilIface]) ∧ w' = w := by
  have has1 := Uapg.as9_46
  go_enter Uapg.func22, Uapg.ntmps22
  go_wp2
  go_ret2
  exact ⟨rfl, rfl⟩

set_option maxHeartbeats 400000 in
theorem toArray_float (b : Nat) (x : Value) (w : World) (hc : w.cell? ⟨b, 0, none⟩ = some (.iface 23 x)) :
    Calls Uapg.prog 22 #[.slice (some ⟨b, 0, none⟩) 1 1] w fun e w' => e = .returned (.tuple #[.iface 46 (.slice (some ⟨b, 0, none⟩) 1 1), .nilIface]) ∧ w' = w := by
  have has1 := Uapg.as23_46
  go_enter Uapg.func22, Uapg.ntmps22
  go_wp2
  go_ret2
  exact ⟨rfl, rfl⟩

set_option maxHeartbeats 400000 in
theorem toArray_arr (b : Nat) (ad : Option Addr) (n c : Nat) (w : World) (hc : w.cell? ⟨b, 0, none⟩ = some (.iface 46 (.slice ad n c))) :
    Calls Uapg.prog 22 #[.slice (some ⟨b, 0, none⟩) 1 1] w fun e w' => e = .returned (.tuple #[.iface 46 (.slice ad n c), .nilIface]) ∧ w' = w := by
  have has1 := Uapg.as46_46
  go_enter Uapg.func22, Uapg.ntmps22
  go_wp2
  go_ret2
  exact ⟨rfl, rfl⟩

set_option maxHeartbeats 400000 in
theorem stringsIn_any (ad : Option Addr) (n c : Nat) (s : Nat → ByteArray) (w : World) (hv : View w ad n (fun j => .string (s j))) (hn : n ≤ 70000) :
    Calls Uapg.prog 24 #[.slice ad n c] w fun e w' => e = .returned (.slice (some ⟨w.heap.size, 0, none⟩) n n) ∧ Row w' w.heap.size n (fun j => .iface 9 (.string (s j))) ∧ Below w.heap.size w w' := by
  have HV : Hid (View w ad n (fun j => .string (s j))) := hv
  clear hv
  have hmk := run_make_row' (P := Uapg.prog) 46 20 .nilIface 16 Uapg.underlying46 Uapg.info20 rfl .i64 .i64 n (by omega) (by omega)
  go_enter Uapg.func24, Uapg.ntmps24
  go_wp2
  clear hmk
  go_loopw [4] (fun i wr => ∃ k : Nat, k ≤ n ∧ i = .int .i64 k ∧ Row wr w.heap.size n (fill .nilIface (fun j => .iface 9 (.string (s j))) k) ∧ Below w.heap.size w wr) (fun i _ => n - (intOf i).toNat)
  case atStart => exact ⟨0, Nat.zero_le _, rfl, Row.fill_start _ (Row.made _ _ _ _), (Below.refl _ _).alloc (Nat.le_refl _) _⟩
  case round =>
    obtain ⟨k, hk, rfl, hr, hb⟩ := hrel
    have HR : Hid (Row wr w.heap.size n (fill .nilIface (fun j => .iface 9 (.string (s j))) k)) := hr
    have HB : Hid (Below w.heap.size w wr) := hb
    by_cases hlt : k < n
    · obtain ⟨b, off, e, hbs, hc⟩ := HV.out.look hlt
      have hck := (hb.cell (p := ⟨b, off + k, none⟩) hbs).trans (hc k hlt)
      obtain ⟨h1, h2⟩ := hr.2 k hlt
      have hs := hr.1
      clear hc hr hb
      rw [e]
      go_wp2
      go_roundw
      case rel => exact ⟨k + 1, by omega, by go_num, HR.out.fill_step hlt, HB.out.setCell (by exact Nat.le_refl _) _⟩
      case measure => simp [intOf]; omega
    · clear hr hb
      go_wp2
      go_ret
      exact ⟨rfl, HR.out.fill_end (by omega), HB.out⟩

set_option maxHeartbeats 400000 in
theorem stringsOut_any (ad : Option Addr) (n c : Nat) (s : Nat → ByteArray) (w : World) (hv : View w ad n (fun j => .iface 9 (.string (s j)))) (hn : n ≤ 70000) :
    Calls Uapg.prog 23 #[.iface 46 (.slice ad n c)] w fun e w' => e = .returned (.tuple #[.slice (some ⟨w.heap.size, 0, none⟩) n n, .bool true]) ∧ Row w' w.heap.size n (fun j => .string (s j)) ∧ Below w.heap.size w w' := by
  have HV : Hid (View w ad n (fun j => .iface 9 (.string (s j)))) := hv
  clear hv
  have hmk := run_make_row' (P := Uapg.prog) 22 9 (.string ByteArray.empty) 16 Uapg.underlying22 Uapg.info9 rfl .i64 .i64 n (by omega) (by omega)
  have has1 := Uapg.as46_46
  have has2 := Uapg.as9_9
  go_enter Uapg.func23, Uapg.ntmps23
  go_wp2
  clear hmk
  go_loopw [7] (fun i wr => ∃ k : Nat, k ≤ n ∧ i = .int .i64 k ∧ Row wr w.heap.size n (fill (.string ByteArray.empty) (fun j => .string (s j)) k) ∧ Below w.heap.size w wr) (fun i _ => n - (intOf i).toNat)
  case atStart => exact ⟨0, Nat.zero_le _, rfl, Row.fill_start _ (Row.made _ _ _ _), (Below.refl _ _).alloc (Nat.le_refl _) _⟩
  case round =>
    obtain ⟨k, hk, rfl, hr, hb⟩ := hrel
    have HR : Hid (Row wr w.heap.size n (fill (.string ByteArray.empty) (fun j => .string (s j)) k)) := hr
    have HB : Hid (Below w.heap.size w wr) := hb
    by_cases hlt : k < n
    · obtain ⟨b, off, e, hbs, hc⟩ := HV.out.look hlt
      have hck := (hb.cell (p := ⟨b, off + k, none⟩) hbs).trans (hc k hlt)
      obtain ⟨h1, h2⟩ := hr.2 k hlt
      have hs := hr.1
      clear hc hr hb
      rw [e]
      go_wp2
      go_roundw
      case rel => exact ⟨k + 1, by omega, by go_num, HR.out.fill_step hlt, HB.out.setCell (by exact Nat.le_refl _) _⟩
      case measure => simp [intOf]; omega
    · clear hr hb
      go_wp2
      go_ret2
      exact ⟨rfl, HR.out.fill_end (by omega), HB.out⟩

end Go.Proofs.Youapw
