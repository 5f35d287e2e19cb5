/-
  THE SEAT ouap. jpfNotNull and ZZnotNullStrings.
-/
import Derived.Test.YouapwClones
import Derived.Test.YouapwLeast
namespace Go.Proofs.Youapw
open Go.RowKit

/-- An argument of not_null as the shim lays it: the string, or nil. -/
def argOf (b : Bool) (x : ByteArray) : Value := if b then .iface 9 (.string x) else .nilIface
/-- What jpfNotNull hands back. -/
def outOf : Option ByteArray → Value
  | some x => .iface 9 (.string x)
  | none => .nilIface

set_option maxHeartbeats 400000 in
theorem notNull_any (ad : Option Addr) (n c : Nat) (p : Nat → Bool) (s : Nat → ByteArray) (w : World) (hv : View w ad n (fun j => argOf (p j) (s j))) (hn : n ≤ maxLen) :
    Calls Uapg.prog 25 #[.slice ad n c] w fun e w' => e = .returned (.tuple #[outOf ((least p n).map s), .nilIface]) ∧ w' = w := by
  unfold maxLen at hn
  have HV : Hid (View w ad n (fun j => argOf (p j) (s j))) := hv
  clear hv
  go_enter Uapg.func25, Uapg.ntmps25
  go_wp2
  go_loop [8] (fun i => ∃ k : Nat, k ≤ n ∧ i = .int .i64 k ∧ Hid (least p k = none)) (fun i => n - (intOf i).toNat)
  case atStart => exact ⟨0, Nat.zero_le _, rfl, rfl⟩
  case round =>
    obtain ⟨k, hk, rfl, HL⟩ := hrel
    by_cases hlt : k < n
    · obtain ⟨b, off, e, _, hc⟩ := HV.out.look hlt
      have hck := hc k hlt
      clear hc
      rw [e]
      cases hp : p k with
      | true =>
        have hck' : w.cell? ⟨b, off + k, none⟩ = some (.iface 9 (.string (s k))) := by rw [hck, hp]; rfl
        have HF : Hid (least p n = some k) := least_some hlt hp (least_none.1 HL.out)
        clear hck hp
        go_wp2
        go_ret2
        exact ⟨by rw [HF.out]; rfl, rfl⟩
      | false =>
        have hck' : w.cell? ⟨b, off + k, none⟩ = some .nilIface := by rw [hck, hp]; rfl
        have HF : Hid (least p (k + 1) = none) := by show least p (k + 1) = none; simp [least, HL.out, hp]
        clear hck hp
        go_wp2
        go_round
        case rel => exact ⟨k + 1, by omega, by go_num, HF⟩
        case measure => simp [intOf]; omega
    · have e : k = n := by omega
      subst e
      go_wp2
      go_ret2
      exact ⟨by rw [HL.out]; rfl, rfl⟩

theorem Uapg.info20 : (Uapg.prog.info? 20).map (fun i => (i.zero, i.size, i.bytes)) = some (some .nilIface, 1, 16) := by kernel_rfl

theorem Row.fill_skip {w : World} {b n k : Nat} {z : Value} {f : Nat → Value} (h : Row w b n (fill z f k)) (hz : f k = z) : Row w b n (fill z f (k + 1)) := by
  refine h.congr fun j _ => ?_
  unfold fill
  by_cases e : j = k
  · subst e; rw [if_neg (by omega), if_pos (by omega), hz]
  · by_cases e2 : j < k
    · rw [if_pos e2, if_pos (by omega)]
    · rw [if_neg e2, if_neg (by omega)]

def got (o : Option ByteArray) : ByteArray := o.getD ByteArray.empty
def has (o : Option ByteArray) : Bool := o.isSome

set_option maxHeartbeats 1000000 in
theorem notNullStrings_lt (ap : Option Addr) (m c' : Nat) (ad : Option Addr) (n c : Nat) (p : Nat → Bool) (s : Nat → ByteArray) (w : World) (hu : View w ap m (fun j => .bool (p j))) (hv : View w ad n (fun j => .string (s j))) (hm : m ≤ 70000) (hn : n ≤ 70000) (hlen : n < m) :
    Calls Uapg.prog 20 #[.slice ap m c', .slice ad n c] w fun e w' => e = .returned (.tuple #[.string (got ((least p n).map s)), .bool (has ((least p n).map s)), .bool true]) ∧ Below w.heap.size w w' := by
  obtain ⟨o, ho⟩ : ∃ o, o = (least p n).map s := ⟨_, rfl⟩
  rw [← ho]
  have HO : Hid (o = (least p n).map s) := ho
  clear ho
  have HU : Hid (View w ap m (fun j => .bool (p j))) := hu
  have HV : Hid (View w ad n (fun j => .string (s j))) := hv
  clear hu hv
  have hmk := run_make_row' (P := Uapg.prog) 46 20 .nilIface 16 Uapg.underlying46 Uapg.info20 rfl .i64 .i64 n (by omega) (by omega)
  have has9 := Uapg.as9_9
  go_enter Uapg.func20, Uapg.ntmps20
  go_wp2
  clear hmk
  go_loopw [9] (fun i wr => ∃ k : Nat, k ≤ n ∧ i = .int .i64 k ∧ Row wr w.heap.size n (fill .nilIface (fun j => argOf (p j) (s j)) k) ∧ Below w.heap.size w wr) (fun i _ => n - (intOf i).toNat)
  case atStart => exact ⟨0, Nat.zero_le _, rfl, Row.fill_start _ (Row.made _ _ _ _), (Below.refl _ _).alloc (Nat.le_refl _) _⟩
  case round =>
    obtain ⟨k, hk, rfl, hr, hb⟩ := hrel
    have HR : Hid (Row wr w.heap.size n (fill .nilIface (fun j => argOf (p j) (s j)) k)) := hr
    have HB : Hid (Below w.heap.size w wr) := hb
    by_cases hlt : k < n
    · have hkm : k < m := by omega
      have hkn : k < n := by omega
      obtain ⟨b, off, e, hbs, hc⟩ := HU.out.look hkm
      have hck := (hb.cell (p := ⟨b, off + k, none⟩) hbs).trans (hc k hkm)
      obtain ⟨b', off', e', hbs', hc'⟩ := HV.out.look hkn
      have hck' := (hb.cell (p := ⟨b', off' + k, none⟩) hbs').trans (hc' k hkn)
      obtain ⟨h1, h2⟩ := hr.2 k hlt
      have hs := hr.1
      clear hc hc' hr hb
      rw [e, e']
      cases hp : p k with
      | true =>
        rw [hp] at hck
        have HA : Hid (argOf (p k) (s k) = .iface 9 (.string (s k))) := by show argOf (p k) (s k) = _; rw [hp]; rfl
        clear hp
        go_wp2
        go_roundw
        case rel =>
          refine ⟨k + 1, by omega, by go_num, ?_, HB.out.setCell (by exact Nat.le_refl _) _⟩
          have R := HR.out.fill_step hlt
          rw [HA.out] at R
          exact R
        case measure => simp [intOf]; omega
      | false =>
        rw [hp] at hck
        have HA : Hid (argOf (p k) (s k) = .nilIface) := by show argOf (p k) (s k) = _; rw [hp]; rfl
        clear hp
        go_wp2
        go_roundw
        case rel => exact ⟨k + 1, by omega, by go_num, HR.out.fill_skip HA.out, HB.out⟩
        case measure => simp [intOf]; omega
    · have HW : Hid (View wr (some ⟨w.heap.size, 0, none⟩) n (fun j => argOf (p j) (s j))) := (HR.out.fill_end (by omega)).view
      clear hr hb
      go_wp2_with fail
      refine (notNull_any _ _ _ p s _ HW.out (by unfold maxLen; omega)).mono ?_
      rintro e w1 ⟨rfl, rfl⟩
      rw [← HO.out]
      clear HO
      cases o with
      | none =>
        simp only [outOf]
        go_wp2
        go_ret3
        exact ⟨rfl, HB.out⟩
      | some x =>
        simp only [outOf]
        go_wp2
        go_ret3
        exact ⟨rfl, HB.out⟩

set_option maxHeartbeats 1000000 in
theorem notNullStrings_ge (ap : Option Addr) (m c' : Nat) (ad : Option Addr) (n c : Nat) (p : Nat → Bool) (s : Nat → ByteArray) (w : World) (hu : View w ap m (fun j => .bool (p j))) (hv : View w ad n (fun j => .string (s j))) (hm : m ≤ 70000) (hn : n ≤ 70000) (hlen : ¬ n < m) :
    Calls Uapg.prog 20 #[.slice ap m c', .slice ad n c] w fun e w' => e = .returned (.tuple #[.string (got ((least p m).map s)), .bool (has ((least p m).map s)), .bool true]) ∧ Below w.heap.size w w' := by
  obtain ⟨o, ho⟩ : ∃ o, o = (least p m).map s := ⟨_, rfl⟩
  rw [← ho]
  have HO : Hid (o = (least p m).map s) := ho
  clear ho
  have HU : Hid (View w ap m (fun j => .bool (p j))) := hu
  have HV : Hid (View w ad n (fun j => .string (s j))) := hv
  clear hu hv
  have hmk := run_make_row' (P := Uapg.prog) 46 20 .nilIface 16 Uapg.underlying46 Uapg.info20 rfl .i64 .i64 m (by omega) (by omega)
  have has9 := Uapg.as9_9
  go_enter Uapg.func20, Uapg.ntmps20
  go_wp2
  clear hmk
  go_loopw [9] (fun i wr => ∃ k : Nat, k ≤ m ∧ i = .int .i64 k ∧ Row wr w.heap.size m (fill .nilIface (fun j => argOf (p j) (s j)) k) ∧ Below w.heap.size w wr) (fun i _ => m - (intOf i).toNat)
  case atStart => exact ⟨0, Nat.zero_le _, rfl, Row.fill_start _ (Row.made _ _ _ _), (Below.refl _ _).alloc (Nat.le_refl _) _⟩
  case round =>
    obtain ⟨k, hk, rfl, hr, hb⟩ := hrel
    have HR : Hid (Row wr w.heap.size m (fill .nilIface (fun j => argOf (p j) (s j)) k)) := hr
    have HB : Hid (Below w.heap.size w wr) := hb
    by_cases hlt : k < m
    · have hkm : k < m := by omega
      have hkn : k < n := by omega
      obtain ⟨b, off, e, hbs, hc⟩ := HU.out.look hkm
      have hck := (hb.cell (p := ⟨b, off + k, none⟩) hbs).trans (hc k hkm)
      obtain ⟨b', off', e', hbs', hc'⟩ := HV.out.look hkn
      have hck' := (hb.cell (p := ⟨b', off' + k, none⟩) hbs').trans (hc' k hkn)
      obtain ⟨h1, h2⟩ := hr.2 k hlt
      have hs := hr.1
      clear hc hc' hr hb
      rw [e, e']
      cases hp : p k with
      | true =>
        rw [hp] at hck
        have HA : Hid (argOf (p k) (s k) = .iface 9 (.string (s k))) := by show argOf (p k) (s k) = _; rw [hp]; rfl
        clear hp
        go_wp2
        go_roundw
        case rel =>
          refine ⟨k + 1, by omega, by go_num, ?_, HB.out.setCell (by exact Nat.le_refl _) _⟩
          have R := HR.out.fill_step hlt
          rw [HA.out] at R
          exact R
        case measure => simp [intOf]; omega
      | false =>
        rw [hp] at hck
        have HA : Hid (argOf (p k) (s k) = .nilIface) := by show argOf (p k) (s k) = _; rw [hp]; rfl
        clear hp
        go_wp2
        go_roundw
        case rel => exact ⟨k + 1, by omega, by go_num, HR.out.fill_skip HA.out, HB.out⟩
        case measure => simp [intOf]; omega
    · have HW : Hid (View wr (some ⟨w.heap.size, 0, none⟩) m (fun j => argOf (p j) (s j))) := (HR.out.fill_end (by omega)).view
      clear hr hb
      go_wp2_with fail
      refine (notNull_any _ _ _ p s _ HW.out (by unfold maxLen; omega)).mono ?_
      rintro e w1 ⟨rfl, rfl⟩
      rw [← HO.out]
      clear HO
      cases o with
      | none =>
        simp only [outOf]
        go_wp2
        go_ret3
        exact ⟨rfl, HB.out⟩
      | some x =>
        simp only [outOf]
        go_wp2
        go_ret3
        exact ⟨rfl, HB.out⟩

theorem notNullStrings_any (ap : Option Addr) (m c' : Nat) (ad : Option Addr) (n c : Nat) (p : Nat → Bool) (s : Nat → ByteArray) (w : World) (hu : View w ap m (fun j => .bool (p j))) (hv : View w ad n (fun j => .string (s j))) (hm : m ≤ 70000) (hn : n ≤ 70000) :
    Calls Uapg.prog 20 #[.slice ap m c', .slice ad n c] w fun e w' => e = .returned (.tuple #[.string (got ((least p (min m n)).map s)), .bool (has ((least p (min m n)).map s)), .bool true]) ∧ Below w.heap.size w w' := by
  by_cases h : n < m
  · rw [Nat.min_eq_right (Nat.le_of_lt h)]
    exact notNullStrings_lt ap m c' ad n c p s w hu hv hm hn h
  · rw [Nat.min_eq_left (Nat.le_of_not_lt h)]
    exact notNullStrings_ge ap m c' ad n c p s w hu hv hm hn h

end Go.Proofs.Youapw
