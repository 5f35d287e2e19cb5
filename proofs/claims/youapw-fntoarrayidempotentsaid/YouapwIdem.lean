/-
  THE SEAT ouap. THE LAW FnToArrayIdempotent, walked.
-/
import Derived.Test.YouapwSizes
import Derived.Test.YouapwShims
namespace Go.Proofs.Youapw
open Go.RowKit

set_option maxHeartbeats 400000 in
theorem idem_big (q : ByteArray) (ad : Option Addr) (n c : Nat) (s : Nat → ByteArray) (w : World) (hv : View w ad n (fun j => .string (s j))) (hq : q.size ≤ maxLen) (hn : n ≤ maxLen) (hbig : 1048576 < q.size ∨ 65536 < n) :
    Calls Uapg.prog 4 #[.string q, .slice ad n c] w fun e w' => e = .returned (.bool true) ∧ Below w.heap.size w w' := by
  have HV : Hid (View w ad n (fun j => .string (s j))) := hv
  have HN : Hid (n ≤ maxLen) := hn
  have HQ : Hid (q.size ≤ maxLen) := hq
  unfold maxLen at hn hq
  clear hv
  go_enter Uapg.func4, Uapg.ntmps4
  go_wp2_with fail
  refine (bytesIdem_any q ad n c s _ HV.out HN.out HQ.out).mono ?_
  rintro e w1 ⟨⟨r, rfl⟩, rfl⟩
  cases r with
  | false =>
    go_wp2
    go_ret
    exact ⟨rfl, Below.refl _ _⟩
  | true =>
    by_cases h1 : 1048576 < q.size
    · go_wp2_with fail
      go_ret
      exact ⟨rfl, Below.refl _ _⟩
    · have h2 : 65536 < n := by omega
      go_wp2_with fail
      go_ret
      exact ⟨rfl, Below.refl _ _⟩

set_option maxHeartbeats 1000000 in
theorem idem_small (q : ByteArray) (ad : Option Addr) (n c : Nat) (s : Nat → ByteArray) (w : World) (hv : View w ad n (fun j => .string (s j))) (hq : q.size ≤ 1048576) (hn : n ≤ 65536) :
    Calls Uapg.prog 4 #[.string q, .slice ad n c] w fun e w' => e = .returned (.bool true) ∧ Below w.heap.size w w' := by
  have HV : Hid (View w ad n (fun j => .string (s j))) := hv
  clear hv
  go_enter Uapg.func4, Uapg.ntmps4
  go_wp2_with fail
  refine (bytesIdem_any q ad n c s _ HV.out (by unfold maxLen; omega) (by unfold maxLen; omega)).mono ?_
  rintro e w1 ⟨⟨r, rfl⟩, rfl⟩
  cases r with
  | false =>
    go_wp2
    go_ret
    exact ⟨rfl, Below.refl _ _⟩
  | true =>
    go_wp2_with fail
    refine (strBytes_any ad n c s _ HV.out (by unfold maxLen; omega)).mono ?_
    rintro e w2 ⟨⟨t, rfl⟩, rfl⟩
    go_wp2_with fail
    · go_ret
      exact ⟨rfl, Below.refl _ _⟩
    · refine (cloneStrs_any ad n c s _ HV.out hn).mono ?_
      rintro e w3 ⟨ad1, rfl, hv3, hb3⟩
      have HV3 : Hid (View w3 ad1 n (fun j => .string (s j))) := hv3
      have HB3 : Hid (Below w2.heap.size w2 w3) := hb3
      clear hv3 hb3 HV
      go_wp2_with fail
      refine (scalarString_any q _).mono ?_
      rintro e w4 ⟨a1, rfl, hx4, hb4⟩
      have HX4 : Hid (View w4 a1 1 (fun _ => .string q)) := hx4
      have HV4 : Hid (View w4 ad1 n (fun j => .string (s j))) := HV3.out.below hb4 (Nat.le_refl _)
      have HB4 : Hid (Below w2.heap.size w2 w4) := HB3.out.trans (hb4.mono HB3.out.size)
      clear hx4 hb4 HV3 HB3
      go_wp2_with fail
      refine (twiceString_any q _).mono ?_
      rintro e w5 ⟨a2, rfl, hy5, hb5⟩
      have HY5 : Hid (View w5 a2 1 (fun _ => .string q)) := hy5
      have HX5 : Hid (View w5 a1 1 (fun _ => .string q)) := HX4.out.below hb5 (Nat.le_refl _)
      have HV5 : Hid (View w5 ad1 n (fun j => .string (s j))) := HV4.out.below hb5 (Nat.le_refl _)
      have HB5 : Hid (Below w2.heap.size w2 w5) := HB4.out.trans (hb5.mono HB4.out.size)
      clear hy5 hb5 HX4 HV4 HB4
      go_wp2_with fail
      refine (same_any a2 1 a1 1 1 (fun _ => q) _ HY5.out HX5.out (by omega)).mono ?_
      rintro e w6 ⟨rfl, hb6⟩
      have HV6 : Hid (View w6 ad1 n (fun j => .string (s j))) := HV5.out.below hb6 (Nat.le_refl _)
      have HB6 : Hid (Below w2.heap.size w2 w6) := HB5.out.trans (hb6.mono HB5.out.size)
      clear hb6 HX5 HY5 HV5 HB5
      go_wp2_with fail
      refine (ofList_any ad1 n n s _ HV6.out (by omega)).mono ?_
      rintro e w7 ⟨a3, rfl, hx7, hb7⟩
      have HX7 : Hid (View w7 a3 n (fun j => .string (s j))) := hx7
      have HV7 : Hid (View w7 ad1 n (fun j => .string (s j))) := HV6.out.below hb7 (Nat.le_refl _)
      have HB7 : Hid (Below w2.heap.size w2 w7) := HB6.out.trans (hb7.mono HB6.out.size)
      clear hx7 hb7 HV6 HB6
      go_wp2_with fail
      refine (twiceList_any ad1 n n s _ HV7.out (by omega)).mono ?_
      rintro e w8 ⟨a4, rfl, hx8, hb8⟩
      have HY8 : Hid (View w8 a4 n (fun j => .string (s j))) := hx8
      have HX8 : Hid (View w8 a3 n (fun j => .string (s j))) := HX7.out.below hb8 (Nat.le_refl _)
      have HB8 : Hid (Below w2.heap.size w2 w8) := HB7.out.trans (hb8.mono HB7.out.size)
      clear hx8 hb8 HV7 HX7 HB7
      go_wp2_with fail
      refine (same_any a4 n a3 n n s _ HY8.out HX8.out (by omega)).mono ?_
      rintro e w9 ⟨rfl, hb9⟩
      have HB9 : Hid (Below w2.heap.size w2 w9) := HB8.out.trans (hb9.mono HB8.out.size)
      clear hb9 HY8 HX8 HB8
      go_wp2_with fail
      go_ret
      exact ⟨rfl, HB9.out⟩

theorem idem_any (q : ByteArray) (ad : Option Addr) (n c : Nat) (s : Nat → ByteArray) (w : World) (hv : View w ad n (fun j => .string (s j))) (hq : q.size ≤ maxLen) (hn : n ≤ maxLen) :
    Calls Uapg.prog 4 #[.string q, .slice ad n c] w fun e w' => e = .returned (.bool true) ∧ Below w.heap.size w w' := by
  by_cases h1 : 1048576 < q.size
  · exact idem_big q ad n c s w hv hq hn (Or.inl h1)
  · by_cases h2 : 65536 < n
    · exact idem_big q ad n c s w hv hq hn (Or.inr h2)
    · exact idem_small q ad n c s w hv (by omega) (by omega)

end Go.Proofs.Youapw
