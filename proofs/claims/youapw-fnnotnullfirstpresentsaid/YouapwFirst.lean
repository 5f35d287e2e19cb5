/-
  THE SEAT ouap. THE LAW FnNotNullFirstPresent, walked.
-/
import Derived.Test.YouapwSizes
import Derived.Test.YouapwNotNull
namespace Go.Proofs.Youapw
open Go.RowKit

set_option maxHeartbeats 400000 in
theorem first_big (ap : Option Addr) (m c' : Nat) (ad : Option Addr) (n c : Nat) (s : Nat → ByteArray) (w : World) (hv : View w ad n (fun j => .string (s j))) (hm : m ≤ maxLen) (hn : n ≤ maxLen) (hbig : 65536 < m ∨ 65536 < n) :
    Calls Uapg.prog 5 #[.slice ap m c', .slice ad n c] w fun e w' => e = .returned (.bool true) ∧ Below w.heap.size w w' := by
  have HV : Hid (View w ad n (fun j => .string (s j))) := hv
  have HN : Hid (n ≤ maxLen) := hn
  have HM : Hid (m ≤ maxLen) := hm
  unfold maxLen at hn hm
  clear hv
  go_enter Uapg.func5, Uapg.ntmps5
  go_wp2_with fail
  refine (bytesFirst_any ap m c' ad n c s _ HV.out HN.out HM.out).mono ?_
  rintro e w1 ⟨⟨r, rfl⟩, rfl⟩
  cases r with
  | false =>
    go_wp2
    go_ret
    exact ⟨rfl, Below.refl _ _⟩
  | true =>
    by_cases h1 : 65536 < m
    · go_wp2_with fail
      go_ret
      exact ⟨rfl, Below.refl _ _⟩
    · have h2 : 65536 < n := by omega
      go_wp2_with fail
      go_ret
      exact ⟨rfl, Below.refl _ _⟩

set_option maxHeartbeats 1000000 in
theorem first_lt (ap : Option Addr) (m c' : Nat) (ad : Option Addr) (n c : Nat) (p : Nat → Bool) (s : Nat → ByteArray) (w : World) (hu : View w ap m (fun j => .bool (p j))) (hv : View w ad n (fun j => .string (s j))) (hm : m ≤ 65536) (hn : n ≤ 65536) (hlen : n < m) :
    Calls Uapg.prog 5 #[.slice ap m c', .slice ad n c] w fun e w' => e = .returned (.bool true) ∧ Below w.heap.size w w' := by
  have HU : Hid (View w ap m (fun j => .bool (p j))) := hu
  have HV : Hid (View w ad n (fun j => .string (s j))) := hv
  clear hu hv
  go_enter Uapg.func5, Uapg.ntmps5
  go_wp2_with fail
  refine (bytesFirst_any ap m c' ad n c s _ HV.out (by unfold maxLen; omega) (by unfold maxLen; omega)).mono ?_
  rintro e w1 ⟨⟨r, rfl⟩, rfl⟩
  cases r with
  | false =>
    go_wp2
    go_ret
    exact ⟨rfl, Below.refl _ _⟩
  | true =>
    go_wp2_with fail
    refine (strBytes_any ad n c s _ HV.out (by unfold maxLen; omega)).mono ?_
    rintro e w2 ⟨⟨t, rfl⟩, rfl⟩
    go_wp2_with fail
    · go_ret
      exact ⟨rfl, Below.refl _ _⟩
    · refine (cloneBools_any ap m c' p _ HU.out hm).mono ?_
      rintro e w3 ⟨ap1, rfl, hu3, hb3⟩
      have HU3 : Hid (View w3 ap1 m (fun j => .bool (p j))) := hu3
      have HB3 : Hid (Below w2.heap.size w2 w3) := hb3
      have HV3 : Hid (View w3 ad n (fun j => .string (s j))) := HV.out.below hb3 (Nat.le_refl _)
      clear hu3 hb3 HU HV
      go_wp2_with fail
      refine (cloneStrs_any ad n c s _ HV3.out hn).mono ?_
      rintro e w4 ⟨ad1, rfl, hv4, hb4⟩
      have HV4 : Hid (View w4 ad1 n (fun j => .string (s j))) := hv4
      have HU4 : Hid (View w4 ap1 m (fun j => .bool (p j))) := HU3.out.below hb4 (Nat.le_refl _)
      have HB4 : Hid (Below w2.heap.size w2 w4) := HB3.out.trans (hb4.mono HB3.out.size)
      clear hv4 hb4 HU3 HV3 HB3
      go_wp2
      go_loop [6, 7] (fun t i => ∃ (k : Nat) (u : Int), k ≤ n ∧ i = .int .i64 ((k : Int) - 1) ∧ t = .int .i64 u ∧ Hid (u = wantD p n (n - k))) (fun _ i => (intOf i + 1).toNat)
      case atStart => exact ⟨n, -1, Nat.le_refl _, rfl, rfl, by show _ = _; rw [Nat.sub_self]; rfl⟩
      case round =>
        obtain ⟨k, u, hk, rfl, rfl, HW⟩ := hrel
        cases k with
        | zero =>
          go_wp2_with fail
          refine (notNullStrings_any ap1 m m ad1 n n p s _ HU4.out HV4.out (by omega) (by omega)).mono ?_
          rintro e w5 ⟨rfl, hb5⟩
          have HB5 : Hid (Below w2.heap.size w2 w5) := HB4.out.trans (hb5.mono HB4.out.size)
          have HV5 : Hid (View w5 ad1 n (fun j => .string (s j))) := HV4.out.below hb5 (Nat.le_refl _)
          clear hb5 HB4 HV4 HU4
          rw [show min m n = n by omega]
          cases hL : least p n with
          | none =>
            obtain rfl : u = -1 := by rw [HW.out]; exact wantD_none hL
            clear HW hL
            simp only [Option.map_none, got, has]
            go_wp2
            go_ret
            exact ⟨rfl, HB5.out⟩
          | some i =>
            obtain rfl : u = (i : Int) := by rw [HW.out]; exact wantD_some hL
            obtain ⟨hi, _, _⟩ := least_some_inv hL
            have hin : i < n := by omega
            obtain ⟨b, off, e, _, hc⟩ := HV5.out.look hin
            have hck := hc i hin
            clear HW hL hc
            subst e
            simp only [Option.map_some, got, has]
            go_wp2
            go_ret
            exact ⟨rfl, HB5.out⟩
        | succ k =>
          have hkm : k < m := by omega
          obtain ⟨b, off, e, _, hc⟩ := HU4.out.look hkm
          have hck := hc k hkm
          clear hc
          rw [show ((k + 1 : Nat) : Int) - 1 = (k : Int) by omega]
          have HS := wantD_step (p := p) (n := n) (k := k) (by omega)
          cases hp : p k with
          | true =>
            have HS' : Hid ((k : Int) = wantD p n (n - k)) := by show _ = _; rw [HS, hp]; rfl
            rw [hp] at hck
            clear HS hp HW
            subst e
            go_wp2
            go_round
            case rel => exact ⟨k, k, by omega, by go_num, rfl, HS'⟩
            case measure => simp [intOf]
          | false =>
            have HS' : Hid (u = wantD p n (n - k)) := by show _ = _; rw [HS, hp]; exact HW.out
            rw [hp] at hck
            clear HS hp HW
            subst e
            go_wp2
            go_round
            case rel => exact ⟨k, u, by omega, by go_num, rfl, HS'⟩
            case measure => simp [intOf]

set_option maxHeartbeats 1000000 in
theorem first_ge (ap : Option Addr) (m c' : Nat) (ad : Option Addr) (n c : Nat) (p : Nat → Bool) (s : Nat → ByteArray) (w : World) (hu : View w ap m (fun j => .bool (p j))) (hv : View w ad n (fun j => .string (s j))) (hm : m ≤ 65536) (hn : n ≤ 65536) (hlen : ¬ n < m) :
    Calls Uapg.prog 5 #[.slice ap m c', .slice ad n c] w fun e w' => e = .returned (.bool true) ∧ Below w.heap.size w w' := by
  have HU : Hid (View w ap m (fun j => .bool (p j))) := hu
  have HV : Hid (View w ad n (fun j => .string (s j))) := hv
  clear hu hv
  go_enter Uapg.func5, Uapg.ntmps5
  go_wp2_with fail
  refine (bytesFirst_any ap m c' ad n c s _ HV.out (by unfold maxLen; omega) (by unfold maxLen; omega)).mono ?_
  rintro e w1 ⟨⟨r, rfl⟩, rfl⟩
  cases r with
  | false =>
    go_wp2
    go_ret
    exact ⟨rfl, Below.refl _ _⟩
  | true =>
    go_wp2_with fail
    refine (strBytes_any ad n c s _ HV.out (by unfold maxLen; omega)).mono ?_
    rintro e w2 ⟨⟨t, rfl⟩, rfl⟩
    go_wp2_with fail
    · go_ret
      exact ⟨rfl, Below.refl _ _⟩
    · refine (cloneBools_any ap m c' p _ HU.out hm).mono ?_
      rintro e w3 ⟨ap1, rfl, hu3, hb3⟩
      have HU3 : Hid (View w3 ap1 m (fun j => .bool (p j))) := hu3
      have HB3 : Hid (Below w2.heap.size w2 w3) := hb3
      have HV3 : Hid (View w3 ad n (fun j => .string (s j))) := HV.out.below hb3 (Nat.le_refl _)
      clear hu3 hb3 HU HV
      go_wp2_with fail
      refine (cloneStrs_any ad n c s _ HV3.out hn).mono ?_
      rintro e w4 ⟨ad1, rfl, hv4, hb4⟩
      have HV4 : Hid (View w4 ad1 n (fun j => .string (s j))) := hv4
      have HU4 : Hid (View w4 ap1 m (fun j => .bool (p j))) := HU3.out.below hb4 (Nat.le_refl _)
      have HB4 : Hid (Below w2.heap.size w2 w4) := HB3.out.trans (hb4.mono HB3.out.size)
      clear hv4 hb4 HU3 HV3 HB3
      go_wp2
      go_loop [6, 7] (fun t i => ∃ (k : Nat) (u : Int), k ≤ m ∧ i = .int .i64 ((k : Int) - 1) ∧ t = .int .i64 u ∧ Hid (u = wantD p m (m - k))) (fun _ i => (intOf i + 1).toNat)
      case atStart => exact ⟨m, -1, Nat.le_refl _, rfl, rfl, by show _ = _; rw [Nat.sub_self]; rfl⟩
      case round =>
        obtain ⟨k, u, hk, rfl, rfl, HW⟩ := hrel
        cases k with
        | zero =>
          go_wp2_with fail
          refine (notNullStrings_any ap1 m m ad1 n n p s _ HU4.out HV4.out (by omega) (by omega)).mono ?_
          rintro e w5 ⟨rfl, hb5⟩
          have HB5 : Hid (Below w2.heap.size w2 w5) := HB4.out.trans (hb5.mono HB4.out.size)
          have HV5 : Hid (View w5 ad1 n (fun j => .string (s j))) := HV4.out.below hb5 (Nat.le_refl _)
          clear hb5 HB4 HV4 HU4
          rw [show min m n = m by omega]
          cases hL : least p m with
          | none =>
            obtain rfl : u = -1 := by rw [HW.out]; exact wantD_none hL
            clear HW hL
            simp only [Option.map_none, got, has]
            go_wp2
            go_ret
            exact ⟨rfl, HB5.out⟩
          | some i =>
            obtain rfl : u = (i : Int) := by rw [HW.out]; exact wantD_some hL
            obtain ⟨hi, _, _⟩ := least_some_inv hL
            have hin : i < n := by omega
            obtain ⟨b, off, e, _, hc⟩ := HV5.out.look hin
            have hck := hc i hin
            clear HW hL hc
            subst e
            simp only [Option.map_some, got, has]
            go_wp2
            go_ret
            exact ⟨rfl, HB5.out⟩
        | succ k =>
          have hkm : k < m := by omega
          obtain ⟨b, off, e, _, hc⟩ := HU4.out.look hkm
          have hck := hc k hkm
          clear hc
          rw [show ((k + 1 : Nat) : Int) - 1 = (k : Int) by omega]
          have HS := wantD_step (p := p) (n := m) (k := k) (by omega)
          cases hp : p k with
          | true =>
            have HS' : Hid ((k : Int) = wantD p m (m - k)) := by show _ = _; rw [HS, hp]; rfl
            rw [hp] at hck
            clear HS hp HW
            subst e
            go_wp2
            go_round
            case rel => exact ⟨k, k, by omega, by go_num, rfl, HS'⟩
            case measure => simp [intOf]
          | false =>
            have HS' : Hid (u = wantD p m (m - k)) := by show _ = _; rw [HS, hp]; exact HW.out
            rw [hp] at hck
            clear HS hp HW
            subst e
            go_wp2
            go_round
            case rel => exact ⟨k, u, by omega, by go_num, rfl, HS'⟩
            case measure => simp [intOf]

theorem first_any (ap : Option Addr) (m c' : Nat) (ad : Option Addr) (n c : Nat) (p : Nat → Bool) (s : Nat → ByteArray) (w : World) (hu : View w ap m (fun j => .bool (p j))) (hv : View w ad n (fun j => .string (s j))) (hm : m ≤ maxLen) (hn : n ≤ maxLen) :
    Calls Uapg.prog 5 #[.slice ap m c', .slice ad n c] w fun e w' => e = .returned (.bool true) ∧ Below w.heap.size w w' := by
  by_cases h1 : 65536 < m
  · exact first_big ap m c' ad n c s w hv hm hn (Or.inl h1)
  · by_cases h2 : 65536 < n
    · exact first_big ap m c' ad n c s w hv hm hn (Or.inr h2)
    · by_cases h : n < m
      · exact first_lt ap m c' ad n c p s w hu hv (by omega) (by omega) h
      · exact first_ge ap m c' ad n c p s w hu hv (by omega) (by omega) h

end Go.Proofs.Youapw
