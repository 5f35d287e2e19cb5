/-
  THE SEAT ouap. THE LAW FnToArrayWrapsScalarsKeepsArrays, walked.
-/
import Derived.Test.YouapwSizes
import Derived.Test.YouapwShims
namespace Go.Proofs.Youapw
open Go.RowKit

/-- math.Float64bits, by the model's own entry: the float's bits. -/
theorem Uapg.bits64 (x : Nat) (w : World) : (callFunc 12 #[.float .f64 x]).run Uapg.prog w = .ok (.value (.int .u64 x)) w := by kernel_rfl

set_option maxHeartbeats 400000 in
theorem wraps_big (q : ByteArray) (x : Nat) (ad : Option Addr) (n c : Nat) (s : Nat → ByteArray) (w : World) (hv : View w ad n (fun j => .string (s j))) (hq : q.size ≤ maxLen) (hn : n ≤ maxLen) (hbig : 1048576 < q.size ∨ 65536 < n) :
    Calls Uapg.prog 3 #[.string q, .slice ad n c, .float .f64 x] w fun e w' => e = .returned (.bool true) ∧ Below w.heap.size w w' := by
  have HV : Hid (View w ad n (fun j => .string (s j))) := hv
  have HN : Hid (n ≤ maxLen) := hn
  have HQ : Hid (q.size ≤ maxLen) := hq
  unfold maxLen at hn hq
  clear hv
  go_enter Uapg.func3, Uapg.ntmps3
  go_wp2_with fail
  refine (bytesWraps_any q x ad n c s _ HV.out HN.out HQ.out).mono ?_
  rintro e w1 ⟨⟨r, rfl⟩, rfl⟩
  cases r with
  | false =>
    go_wp2
    go_ret
    exact ⟨rfl, Below.refl _ _⟩
  | true =>
    by_cases h1 : 1048576 < q.size
    · go_wp2_with fail
      go_ret
      exact ⟨rfl, Below.refl _ _⟩
    · have h2 : 65536 < n := by omega
      go_wp2_with fail
      go_ret
      exact ⟨rfl, Below.refl _ _⟩

set_option maxHeartbeats 1000000 in
theorem wraps_small (q : ByteArray) (x : Nat) (ad : Option Addr) (n c : Nat) (s : Nat → ByteArray) (w : World) (hv : View w ad n (fun j => .string (s j))) (hq : q.size ≤ 1048576) (hn : n ≤ 65536) :
    Calls Uapg.prog 3 #[.string q, .slice ad n c, .float .f64 x] w fun e w' => e = .returned (.bool true) ∧ Below w.heap.size w w' := by
  have HV : Hid (View w ad n (fun j => .string (s j))) := hv
  clear hv
  have hbits := Uapg.bits64
  go_enter Uapg.func3, Uapg.ntmps3
  go_wp2_with fail
  refine (bytesWraps_any q x ad n c s _ HV.out (by unfold maxLen; omega) (by unfold maxLen; omega)).mono ?_
  rintro e w1 ⟨⟨r, rfl⟩, rfl⟩
  cases r with
  | false =>
    go_wp2
    go_ret
    exact ⟨rfl, Below.refl _ _⟩
  | true =>
    go_wp2_with fail
    refine (strBytes_any ad n c s _ HV.out (by unfold maxLen; omega)).mono ?_
    rintro e w2 ⟨⟨t, rfl⟩, rfl⟩
    go_wp2_with fail
    · go_ret
      exact ⟨rfl, Below.refl _ _⟩
    · refine (cloneStrs_any ad n c s _ HV.out hn).mono ?_
      rintro e w3 ⟨ad1, rfl, hv3, hb3⟩
      have HV3 : Hid (View w3 ad1 n (fun j => .string (s j))) := hv3
      have HB3 : Hid (Below w2.heap.size w2 w3) := hb3
      clear hv3 hb3 HV
      go_wp2_with fail
      refine (scalarString_any q _).mono ?_
      rintro e w4 ⟨a1, rfl, hx4, hb4⟩
      obtain ⟨b, off, rfl, hbs, hc⟩ := hx4.look (k := 0) (by omega)
      have hck : w4.cell? ⟨b, off, none⟩ = some (.string q) := by simpa using hc 0 (by omega)
      have HV4 : Hid (View w4 ad1 n (fun j => .string (s j))) := HV3.out.below hb4 (Nat.le_refl _)
      have HB4 : Hid (Below w2.heap.size w2 w4) := HB3.out.trans (hb4.mono HB3.out.size)
      clear hx4 hb4 hc HV3 HB3
      go_wp2_with fail
      refine (scalarFloat_any x _).mono ?_
      rintro e w5 ⟨rfl, hb5⟩
      have HV5 : Hid (View w5 ad1 n (fun j => .string (s j))) := HV4.out.below hb5 (Nat.le_refl _)
      have HB5 : Hid (Below w2.heap.size w2 w5) := HB4.out.trans (hb5.mono HB4.out.size)
      clear hb5 hck hbs HV4 HB4
      go_wp2_with fail
      refine (ofList_any ad1 n n s _ HV5.out (by omega)).mono ?_
      rintro e w7 ⟨a3, rfl, hx7, hb7⟩
      have HX7 : Hid (View w7 a3 n (fun j => .string (s j))) := hx7
      have HV7 : Hid (View w7 ad1 n (fun j => .string (s j))) := HV5.out.below hb7 (Nat.le_refl _)
      have HB7 : Hid (Below w2.heap.size w2 w7) := HB5.out.trans (hb7.mono HB5.out.size)
      clear hx7 hb7 HV5 HB5 hbits
      go_wp2_with fail
      refine (same_any a3 n ad1 n n s _ HX7.out HV7.out (by omega)).mono ?_
      rintro e w9 ⟨rfl, hb9⟩
      have HB9 : Hid (Below w2.heap.size w2 w9) := HB7.out.trans (hb9.mono HB7.out.size)
      clear hb9 HX7 HV7 HB7
      go_wp2_with fail
      go_ret
      exact ⟨rfl, HB9.out⟩

theorem wraps_any (q : ByteArray) (x : Nat) (ad : Option Addr) (n c : Nat) (s : Nat → ByteArray) (w : World) (hv : View w ad n (fun j => .string (s j))) (hq : q.size ≤ maxLen) (hn : n ≤ maxLen) :
    Calls Uapg.prog 3 #[.string q, .slice ad n c, .float .f64 x] w fun e w' => e = .returned (.bool true) ∧ Below w.heap.size w w' := by
  by_cases h1 : 1048576 < q.size
  · exact wraps_big q x ad n c s w hv hq hn (Or.inl h1)
  · by_cases h2 : 65536 < n
    · exact wraps_big q x ad n c s w hv hq hn (Or.inr h2)
    · exact wraps_small q x ad n c s w hv (by omega) (by omega)

end Go.Proofs.Youapw
