/-
  THE SEAT ouap. THE LAW FnNotNullPrefixNullsIgnored, walked.
-/
import Derived.Test.YouapwSizes
import Derived.Test.YouapwNotNull
namespace Go.Proofs.Youapw
open Go.RowKit

/-- A row after k rounds of 'x[K+i] = f i': cells K .. K+k-1 are filled, the others hold z. -/
def fillS (z : Value) (f : Nat → Value) (K k j : Nat) : Value := if K ≤ j ∧ j < K + k then f (j - K) else z

theorem Row.fillS_start {w : World} {b n : Nat} {z : Value} (f : Nat → Value) (K : Nat) (h : Row w b n (fun _ => z)) : Row w b n (fillS z f K 0) :=
  h.congr fun j _ => by unfold fillS; rw [if_neg (by omega)]
theorem Row.fillS_step {w : World} {b n K k : Nat} {z : Value} {f : Nat → Value} (h : Row w b n (fillS z f K k)) (hk : K + k < n) : Row (w.setCell ⟨b, K + k, none⟩ (f k)) b n (fillS z f K (k + 1)) := by
  refine (h.put hk (f k)).congr fun j _ => ?_
  unfold fillS
  by_cases e : j = K + k
  · subst e; rw [if_pos rfl, if_pos (by omega), Nat.add_sub_cancel_left]
  · by_cases e2 : K ≤ j ∧ j < K + k
    · rw [if_neg e, if_pos e2, if_pos (by omega)]
    · rw [if_neg e, if_neg e2, if_neg (by omega)]

/-- The lists with K nulls ahead. -/
def preB (p : Nat → Bool) (K j : Nat) : Bool := if K ≤ j then p (j - K) else false
def preS (s : Nat → ByteArray) (K j : Nat) : ByteArray := if K ≤ j then s (j - K) else ByteArray.empty

theorem preB_end {w : World} {b n K k : Nat} {p : Nat → Bool} (h : Row w b (K + n) (fillS (.bool false) (fun j => .bool (p j)) K k)) (hk : n ≤ k) : View w (some ⟨b, 0, none⟩) (K + n) (fun j => .bool (preB p K j)) :=
  (h.congr fun j hj => by
    unfold fillS preB
    by_cases e : K ≤ j
    · rw [if_pos (by omega), if_pos e]
    · rw [if_neg (by omega), if_neg e]).view
theorem preS_end {w : World} {b n K k : Nat} {s : Nat → ByteArray} (h : Row w b (K + n) (fillS (.string ByteArray.empty) (fun j => .string (s j)) K k)) (hk : n ≤ k) : View w (some ⟨b, 0, none⟩) (K + n) (fun j => .string (preS s K j)) :=
  (h.congr fun j hj => by
    unfold fillS preS
    by_cases e : K ≤ j
    · rw [if_pos (by omega), if_pos e]
    · rw [if_neg (by omega), if_neg e]).view

theorem pre_least (p : Nat → Bool) (s : Nat → ByteArray) (K n : Nat) : (least (preB p K) (K + n)).map (preS s K) = (least p n).map s := by
  rw [least_shift (p := p) (k := K) (n := n) (fun j hj => by unfold preB; rw [if_neg (by omega)]) (fun j _ => by unfold preB; rw [if_pos (by omega), Nat.add_sub_cancel_left])]
  cases least p n with
  | none => rfl
  | some i =>
    show some (preS s K (K + i)) = some (s i)
    unfold preS
    rw [if_pos (by omega), Nat.add_sub_cancel_left]

set_option maxHeartbeats 400000 in
theorem ahead_big (ap : Option Addr) (m c' : Nat) (ad : Option Addr) (n c : Nat) (x : Int) (s : Nat → ByteArray) (w : World) (hv : View w ad n (fun j => .string (s j))) (hm : m ≤ maxLen) (hn : n ≤ maxLen) (hbig : 65536 < m ∨ 65536 < n) :
    Calls Uapg.prog 6 #[.slice ap m c', .slice ad n c, .int .i64 x] w fun e w' => e = .returned (.bool true) ∧ Below w.heap.size w w' := by
  have HV : Hid (View w ad n (fun j => .string (s j))) := hv
  have HN : Hid (n ≤ maxLen) := hn
  have HM : Hid (m ≤ maxLen) := hm
  unfold maxLen at hn hm
  clear hv
  go_enter Uapg.func6, Uapg.ntmps6
  go_wp2_with fail
  refine (bytesPrefix_any ap m c' x ad n c s _ HV.out HN.out HM.out).mono ?_
  rintro e w1 ⟨⟨r, rfl⟩, rfl⟩
  cases r with
  | false =>
    go_wp2
    go_ret
    exact ⟨rfl, Below.refl _ _⟩
  | true =>
    by_cases h1 : 65536 < m
    · go_wp2_with fail
      go_ret
      exact ⟨rfl, Below.refl _ _⟩
    · have h2 : 65536 < n := by omega
      go_wp2_with fail
      go_ret
      exact ⟨rfl, Below.refl _ _⟩

set_option maxHeartbeats 400000 in
theorem ahead_out (ap : Option Addr) (m c' : Nat) (ad : Option Addr) (n c : Nat) (x : Int) (s : Nat → ByteArray) (w : World) (hv : View w ad n (fun j => .string (s j))) (hm : m ≤ 65536) (hn : n ≤ 65536) (hx : x < 0 ∨ 4096 < x) :
    Calls Uapg.prog 6 #[.slice ap m c', .slice ad n c, .int .i64 x] w fun e w' => e = .returned (.bool true) ∧ Below w.heap.size w w' := by
  have HV : Hid (View w ad n (fun j => .string (s j))) := hv
  clear hv
  go_enter Uapg.func6, Uapg.ntmps6
  go_wp2_with fail
  refine (bytesPrefix_any ap m c' x ad n c s _ HV.out (by unfold maxLen; omega) (by unfold maxLen; omega)).mono ?_
  rintro e w1 ⟨⟨r, rfl⟩, rfl⟩
  cases r with
  | false =>
    go_wp2
    go_ret
    exact ⟨rfl, Below.refl _ _⟩
  | true =>
    go_wp2_with fail
    refine (strBytes_any ad n c s _ HV.out (by unfold maxLen; omega)).mono ?_
    rintro e w2 ⟨⟨t, rfl⟩, rfl⟩
    by_cases h1 : x < 0
    · go_wp2_with fail
      · go_ret
        exact ⟨rfl, Below.refl _ _⟩
      · go_ret
        exact ⟨rfl, Below.refl _ _⟩
    · have h2 : 4096 < x := by omega
      go_wp2_with fail
      · go_ret
        exact ⟨rfl, Below.refl _ _⟩
      · go_ret
        exact ⟨rfl, Below.refl _ _⟩

set_option maxHeartbeats 1000000 in
theorem ahead_lt (ap : Option Addr) (m c' : Nat) (ad : Option Addr) (n c K : Nat) (p : Nat → Bool) (s : Nat → ByteArray) (w : World) (hu : View w ap m (fun j => .bool (p j))) (hv : View w ad n (fun j => .string (s j))) (hm : m ≤ 65536) (hn : n ≤ 65536) (hK : K ≤ 4096) (hlen : n < m) :
    Calls Uapg.prog 6 #[.slice ap m c', .slice ad n c, .int .i64 (K : Int)] w fun e w' => e = .returned (.bool true) ∧ Below w.heap.size w w' := by
  have HU : Hid (View w ap m (fun j => .bool (p j))) := hu
  have HV : Hid (View w ad n (fun j => .string (s j))) := hv
  clear hu hv
  have hmk1 := run_make_row' (P := Uapg.prog) 36 4 (.bool false) 1 Uapg.underlying36 Uapg.info4 rfl .i64 .i64 (K + n) (by omega) (by omega)
  have hmk2 := run_make_row' (P := Uapg.prog) 22 9 (.string ByteArray.empty) 16 Uapg.underlying22 Uapg.info9 rfl .i64 .i64 (K + n) (by omega) (by omega)
  rw [Int.natCast_add] at hmk1 hmk2
  go_enter Uapg.func6, Uapg.ntmps6
  go_wp2_with fail
  refine (bytesPrefix_any ap m c' _ ad n c s _ HV.out (by unfold maxLen; omega) (by unfold maxLen; omega)).mono ?_
  rintro e w1 ⟨⟨r, rfl⟩, rfl⟩
  cases r with
  | false =>
    go_wp2
    go_ret
    exact ⟨rfl, Below.refl _ _⟩
  | true =>
    go_wp2_with fail
    refine (strBytes_any ad n c s _ HV.out (by unfold maxLen; omega)).mono ?_
    rintro e w2 ⟨⟨t, rfl⟩, rfl⟩
    go_wp2_with fail
    · go_ret
      exact ⟨rfl, Below.refl _ _⟩
    · refine (cloneBools_any ap m c' p _ HU.out hm).mono ?_
      rintro e w3 ⟨ap1, rfl, hu3, hb3⟩
      have HU3 : Hid (View w3 ap1 m (fun j => .bool (p j))) := hu3
      have HB3 : Hid (Below w2.heap.size w2 w3) := hb3
      have HV3 : Hid (View w3 ad n (fun j => .string (s j))) := HV.out.below hb3 (Nat.le_refl _)
      clear hu3 hb3 HU HV
      go_wp2_with fail
      refine (cloneStrs_any ad n c s _ HV3.out hn).mono ?_
      rintro e w4 ⟨ad1, rfl, hv4, hb4⟩
      have HV4 : Hid (View w4 ad1 n (fun j => .string (s j))) := hv4
      have HU4 : Hid (View w4 ap1 m (fun j => .bool (p j))) := HU3.out.below hb4 (Nat.le_refl _)
      have HB4 : Hid (Below w2.heap.size w2 w4) := HB3.out.trans (hb4.mono HB3.out.size)
      clear hv4 hb4 HU3 HV3 HB3
      go_wp2
      clear hmk1 hmk2
      go_loopw [10] (fun i wr => ∃ k : Nat, k ≤ n ∧ i = .int .i64 k ∧ Row wr w4.heap.size (K + n) (fillS (.bool false) (fun j => .bool (p j)) K k) ∧ Row wr (w4.heap.size + 1) (K + n) (fillS (.string ByteArray.empty) (fun j => .string (s j)) K k) ∧ Below w4.heap.size w4 wr) (fun i _ => n - (intOf i).toNat)
      case atStart =>
        refine ⟨0, Nat.zero_le _, rfl, Row.fillS_start _ _ ((Row.made _ _ _ _).alloc _), Row.fillS_start _ _ ?_, ((Below.refl _ _).alloc (Nat.le_refl _) _).alloc (by simp) _⟩
        have R := Row.made (w4.alloc (.cells (madeCells #[.bool false] (K + n)) 4)) (.string ByteArray.empty) (K + n) 9
        rw [World.size_alloc] at R
        exact R
      case round =>
        obtain ⟨k, hk, rfl, hr1, hr2, hb⟩ := hrel
        have HR1 : Hid (Row wr w4.heap.size (K + n) (fillS (.bool false) (fun j => .bool (p j)) K k)) := hr1
        have HR2 : Hid (Row wr (w4.heap.size + 1) (K + n) (fillS (.string ByteArray.empty) (fun j => .string (s j)) K k)) := hr2
        have HB : Hid (Below w4.heap.size w4 wr) := hb
        by_cases hlt : k < n
        · have hkm : k < m := by omega
          have hkn : k < n := by omega
          obtain ⟨b, off, e, hbs, hc⟩ := HU4.out.look hkm
          have hck := (hb.cell (p := ⟨b, off + k, none⟩) hbs).trans (hc k hkm)
          obtain ⟨b', off', e', hbs', hc'⟩ := HV4.out.look hkn
          have hck' : ((wr.setCell ⟨w4.heap.size, K + k, none⟩ (.bool (p k))).cell? ⟨b', off' + k, none⟩) = some (.string (s k)) := by
            rw [World.cell?_setCell_other wr ⟨w4.heap.size, K + k, none⟩ ⟨b', off' + k, none⟩ _ (fun q => by have := congrArg Addr.block q; simp at this; omega)]
            exact (hb.cell (p := ⟨b', off' + k, none⟩) hbs').trans (hc' k hkn)
          obtain ⟨h1, h2⟩ := hr1.2 (K + k) (by omega)
          obtain ⟨h3, h4⟩ := (hr2.setOther (c := w4.heap.size) (k := K + k) (by omega) (.bool (p k))).2 (K + k) (by omega)
          have HS1 : Hid (Row ((wr.setCell ⟨w4.heap.size, K + k, none⟩ (.bool (p k))).setCell ⟨w4.heap.size + 1, K + k, none⟩ (.string (s k))) w4.heap.size (K + n) (fillS (.bool false) (fun j => .bool (p j)) K (k + 1))) := (hr1.fillS_step (by omega)).setOther (by omega) _
          have HS2 : Hid (Row ((wr.setCell ⟨w4.heap.size, K + k, none⟩ (.bool (p k))).setCell ⟨w4.heap.size + 1, K + k, none⟩ (.string (s k))) (w4.heap.size + 1) (K + n) (fillS (.string ByteArray.empty) (fun j => .string (s j)) K (k + 1))) := (hr2.setOther (by omega) _).fillS_step (by omega)
          have hs1 := hr1.1
          have hs2 := hr2.1
          clear hc hc' hr1 hr2 hb HR1 HR2 HU4 HV4
          subst e e'
          go_wp2
          go_roundw
          case rel => exact ⟨k + 1, by omega, by go_num, HS1.out, HS2.out, (HB.out.setCell (by exact Nat.le_refl _) _).setCell (by exact Nat.le_succ _) _⟩
          case measure => simp [intOf]; omega
        · have HW1 : Hid (View wr (some ⟨w4.heap.size, 0, none⟩) (K + n) (fun j => .bool (preB p K j))) := preB_end HR1.out (by omega)
          have HW2 : Hid (View wr (some ⟨w4.heap.size + 1, 0, none⟩) (K + n) (fun j => .string (preS s K j))) := preS_end HR2.out (by omega)
          have HU5 : Hid (View wr ap1 m (fun j => .bool (p j))) := HU4.out.below hb (Nat.le_refl _)
          have HV5 : Hid (View wr ad1 n (fun j => .string (s j))) := HV4.out.below hb (Nat.le_refl _)
          have HB5 : Hid (Below w2.heap.size w2 wr) := HB4.out.trans (hb.mono HB4.out.size)
          clear hr1 hr2 hb HR1 HR2 HB HU4 HV4 HB4
          go_wp2_with fail
          refine (notNullStrings_any ap1 m m ad1 n n p s _ HU5.out HV5.out (by omega) (by omega)).mono ?_
          rintro e w6 ⟨rfl, hb6⟩
          have HB6 : Hid (Below w2.heap.size w2 w6) := HB5.out.trans (hb6.mono HB5.out.size)
          have HX1 : Hid (View w6 (some ⟨w4.heap.size, 0, none⟩) (K + n) (fun j => .bool (preB p K j))) := HW1.out.below hb6 (Nat.le_refl _)
          have HX2 : Hid (View w6 (some ⟨w4.heap.size + 1, 0, none⟩) (K + n) (fun j => .string (preS s K j))) := HW2.out.below hb6 (Nat.le_refl _)
          clear hb6 HB5 HW1 HW2 HU5 HV5
          rw [show min m n = n by omega]
          obtain ⟨o, ho⟩ : ∃ o, o = (least p n).map s := ⟨_, rfl⟩
          rw [← ho]
          have HO : Hid (o = (least p n).map s) := ho
          clear ho
          go_wp2_with fail
          refine (notNullStrings_any _ _ _ _ _ _ (preB p K) (preS s K) _ HX1.out HX2.out (by omega) (by omega)).mono ?_
          rintro e w7 ⟨rfl, hb7⟩
          have HB7 : Hid (Below w2.heap.size w2 w7) := HB6.out.trans (hb7.mono HB6.out.size)
          clear hb7 HB6 HX1 HX2
          rw [Nat.min_self, pre_least, ← HO.out]
          clear HO
          cases o with
          | none =>
            simp only [got, has]
            go_wp2
            go_ret
            exact ⟨rfl, HB7.out⟩
          | some x =>
            simp only [got, has]
            go_wp2
            go_ret
            exact ⟨rfl, HB7.out⟩

set_option maxHeartbeats 1000000 in
theorem ahead_ge (ap : Option Addr) (m c' : Nat) (ad : Option Addr) (n c K : Nat) (p : Nat → Bool) (s : Nat → ByteArray) (w : World) (hu : View w ap m (fun j => .bool (p j))) (hv : View w ad n (fun j => .string (s j))) (hm : m ≤ 65536) (hn : n ≤ 65536) (hK : K ≤ 4096) (hlen : ¬ n < m) :
    Calls Uapg.prog 6 #[.slice ap m c', .slice ad n c, .int .i64 (K : Int)] w fun e w' => e = .returned (.bool true) ∧ Below w.heap.size w w' := by
  have HU : Hid (View w ap m (fun j => .bool (p j))) := hu
  have HV : Hid (View w ad n (fun j => .string (s j))) := hv
  clear hu hv
  have hmk1 := run_make_row' (P := Uapg.prog) 36 4 (.bool false) 1 Uapg.underlying36 Uapg.info4 rfl .i64 .i64 (K + m) (by omega) (by omega)
  have hmk2 := run_make_row' (P := Uapg.prog) 22 9 (.string ByteArray.empty) 16 Uapg.underlying22 Uapg.info9 rfl .i64 .i64 (K + m) (by omega) (by omega)
  rw [Int.natCast_add] at hmk1 hmk2
  go_enter Uapg.func6, Uapg.ntmps6
  go_wp2_with fail
  refine (bytesPrefix_any ap m c' _ ad n c s _ HV.out (by unfold maxLen; omega) (by unfold maxLen; omega)).mono ?_
  rintro e w1 ⟨⟨r, rfl⟩, rfl⟩
  cases r with
  | false =>
    go_wp2
    go_ret
    exact ⟨rfl, Below.refl _ _⟩
  | true =>
    go_wp2_with fail
    refine (strBytes_any ad n c s _ HV.out (by unfold maxLen; omega)).mono ?_
    rintro e w2 ⟨⟨t, rfl⟩, rfl⟩
    go_wp2_with fail
    · go_ret
      exact ⟨rfl, Below.refl _ _⟩
    · refine (cloneBools_any ap m c' p _ HU.out hm).mono ?_
      rintro e w3 ⟨ap1, rfl, hu3, hb3⟩
      have HU3 : Hid (View w3 ap1 m (fun j => .bool (p j))) := hu3
      have HB3 : Hid (Below w2.heap.size w2 w3) := hb3
      have HV3 : Hid (View w3 ad n (fun j => .string (s j))) := HV.out.below hb3 (Nat.le_refl _)
      clear hu3 hb3 HU HV
      go_wp2_with fail
      refine (cloneStrs_any ad n c s _ HV3.out hn).mono ?_
      rintro e w4 ⟨ad1, rfl, hv4, hb4⟩
      have HV4 : Hid (View w4 ad1 n (fun j => .string (s j))) := hv4
      have HU4 : Hid (View w4 ap1 m (fun j => .bool (p j))) := HU3.out.below hb4 (Nat.le_refl _)
      have HB4 : Hid (Below w2.heap.size w2 w4) := HB3.out.trans (hb4.mono HB3.out.size)
      clear hv4 hb4 HU3 HV3 HB3
      go_wp2
      clear hmk1 hmk2
      go_loopw [10] (fun i wr => ∃ k : Nat, k ≤ m ∧ i = .int .i64 k ∧ Row wr w4.heap.size (K + m) (fillS (.bool false) (fun j => .bool (p j)) K k) ∧ Row wr (w4.heap.size + 1) (K + m) (fillS (.string ByteArray.empty) (fun j => .string (s j)) K k) ∧ Below w4.heap.size w4 wr) (fun i _ => m - (intOf i).toNat)
      case atStart =>
        refine ⟨0, Nat.zero_le _, rfl, Row.fillS_start _ _ ((Row.made _ _ _ _).alloc _), Row.fillS_start _ _ ?_, ((Below.refl _ _).alloc (Nat.le_refl _) _).alloc (by simp) _⟩
        have R := Row.made (w4.alloc (.cells (madeCells #[.bool false] (K + m)) 4)) (.string ByteArray.empty) (K + m) 9
        rw [World.size_alloc] at R
        exact R
      case round =>
        obtain ⟨k, hk, rfl, hr1, hr2, hb⟩ := hrel
        have HR1 : Hid (Row wr w4.heap.size (K + m) (fillS (.bool false) (fun j => .bool (p j)) K k)) := hr1
        have HR2 : Hid (Row wr (w4.heap.size + 1) (K + m) (fillS (.string ByteArray.empty) (fun j => .string (s j)) K k)) := hr2
        have HB : Hid (Below w4.heap.size w4 wr) := hb
        by_cases hlt : k < m
        · have hkm : k < m := by omega
          have hkn : k < n := by omega
          obtain ⟨b, off, e, hbs, hc⟩ := HU4.out.look hkm
          have hck := (hb.cell (p := ⟨b, off + k, none⟩) hbs).trans (hc k hkm)
          obtain ⟨b', off', e', hbs', hc'⟩ := HV4.out.look hkn
          have hck' : ((wr.setCell ⟨w4.heap.size, K + k, none⟩ (.bool (p k))).cell? ⟨b', off' + k, none⟩) = some (.string (s k)) := by
            rw [World.cell?_setCell_other wr ⟨w4.heap.size, K + k, none⟩ ⟨b', off' + k, none⟩ _ (fun q => by have := congrArg Addr.block q; simp at this; omega)]
            exact (hb.cell (p := ⟨b', off' + k, none⟩) hbs').trans (hc' k hkn)
          obtain ⟨h1, h2⟩ := hr1.2 (K + k) (by omega)
          obtain ⟨h3, h4⟩ := (hr2.setOther (c := w4.heap.size) (k := K + k) (by omega) (.bool (p k))).2 (K + k) (by omega)
          have HS1 : Hid (Row ((wr.setCell ⟨w4.heap.size, K + k, none⟩ (.bool (p k))).setCell ⟨w4.heap.size + 1, K + k, none⟩ (.string (s k))) w4.heap.size (K + m) (fillS (.bool false) (fun j => .bool (p j)) K (k + 1))) := (hr1.fillS_step (by omega)).setOther (by omega) _
          have HS2 : Hid (Row ((wr.setCell ⟨w4.heap.size, K + k, none⟩ (.bool (p k))).setCell ⟨w4.heap.size + 1, K + k, none⟩ (.string (s k))) (w4.heap.size + 1) (K + m) (fillS (.string ByteArray.empty) (fun j => .string (s j)) K (k + 1))) := (hr2.setOther (by omega) _).fillS_step (by omega)
          have hs1 := hr1.1
          have hs2 := hr2.1
          clear hc hc' hr1 hr2 hb HR1 HR2 HU4 HV4
          subst e e'
          go_wp2
          go_roundw
          case rel => exact ⟨k + 1, by omega, by go_num, HS1.out, HS2.out, (HB.out.setCell (by exact Nat.le_refl _) _).setCell (by exact Nat.le_succ _) _⟩
          case measure => simp [intOf]; omega
        · have HW1 : Hid (View wr (some ⟨w4.heap.size, 0, none⟩) (K + m) (fun j => .bool (preB p K j))) := preB_end HR1.out (by omega)
          have HW2 : Hid (View wr (some ⟨w4.heap.size + 1, 0, none⟩) (K + m) (fun j => .string (preS s K j))) := preS_end HR2.out (by omega)
          have HU5 : Hid (View wr ap1 m (fun j => .bool (p j))) := HU4.out.below hb (Nat.le_refl _)
          have HV5 : Hid (View wr ad1 n (fun j => .string (s j))) := HV4.out.below hb (Nat.le_refl _)
          have HB5 : Hid (Below w2.heap.size w2 wr) := HB4.out.trans (hb.mono HB4.out.size)
          clear hr1 hr2 hb HR1 HR2 HB HU4 HV4 HB4
          go_wp2_with fail
          refine (notNullStrings_any ap1 m m ad1 n n p s _ HU5.out HV5.out (by omega) (by omega)).mono ?_
          rintro e w6 ⟨rfl, hb6⟩
          have HB6 : Hid (Below w2.heap.size w2 w6) := HB5.out.trans (hb6.mono HB5.out.size)
          have HX1 : Hid (View w6 (some ⟨w4.heap.size, 0, none⟩) (K + m) (fun j => .bool (preB p K j))) := HW1.out.below hb6 (Nat.le_refl _)
          have HX2 : Hid (View w6 (some ⟨w4.heap.size + 1, 0, none⟩) (K + m) (fun j => .string (preS s K j))) := HW2.out.below hb6 (Nat.le_refl _)
          clear hb6 HB5 HW1 HW2 HU5 HV5
          rw [show min m n = m by omega]
          obtain ⟨o, ho⟩ : ∃ o, o = (least p m).map s := ⟨_, rfl⟩
          rw [← ho]
          have HO : Hid (o = (least p m).map s) := ho
          clear ho
          go_wp2_with fail
          refine (notNullStrings_any _ _ _ _ _ _ (preB p K) (preS s K) _ HX1.out HX2.out (by omega) (by omega)).mono ?_
          rintro e w7 ⟨rfl, hb7⟩
          have HB7 : Hid (Below w2.heap.size w2 w7) := HB6.out.trans (hb7.mono HB6.out.size)
          clear hb7 HB6 HX1 HX2
          rw [Nat.min_self, pre_least, ← HO.out]
          clear HO
          cases o with
          | none =>
            simp only [got, has]
            go_wp2
            go_ret
            exact ⟨rfl, HB7.out⟩
          | some x =>
            simp only [got, has]
            go_wp2
            go_ret
            exact ⟨rfl, HB7.out⟩

theorem ahead_any (ap : Option Addr) (m c' : Nat) (ad : Option Addr) (n c : Nat) (x : Int) (p : Nat → Bool) (s : Nat → ByteArray) (w : World) (hu : View w ap m (fun j => .bool (p j))) (hv : View w ad n (fun j => .string (s j))) (hm : m ≤ maxLen) (hn : n ≤ maxLen) :
    Calls Uapg.prog 6 #[.slice ap m c', .slice ad n c, .int .i64 x] w fun e w' => e = .returned (.bool true) ∧ Below w.heap.size w w' := by
  by_cases h1 : 65536 < m
  · exact ahead_big ap m c' ad n c x s w hv hm hn (Or.inl h1)
  · by_cases h2 : 65536 < n
    · exact ahead_big ap m c' ad n c x s w hv hm hn (Or.inr h2)
    · by_cases h3 : x < 0 ∨ 4096 < x
      · exact ahead_out ap m c' ad n c x s w hv (by omega) (by omega) h3
      · obtain ⟨K, rfl⟩ := Int.eq_ofNat_of_zero_le (show 0 ≤ x by omega)
        by_cases h : n < m
        · exact ahead_lt ap m c' ad n c K p s w hu hv (by omega) (by omega) (by omega) h
        · exact ahead_ge ap m c' ad n c K p s w hu hv (by omega) (by omega) (by omega) h

end Go.Proofs.Youapw
