/-
  THE SEAT ouap. cloneStrs_b10, cloneBools_b10: a new row with the same elements; what was there stays.
-/
import Derived.Test.YouapwViews
namespace Go.Proofs.Youapw
open Go.RowKit

theorem Uapg.info9 : (Uapg.prog.info? 9).map (fun i => (i.zero, i.size, i.bytes)) = some (some (.string ByteArray.empty), 1, 16) := by kernel_rfl
theorem Uapg.info4 : (Uapg.prog.info? 4).map (fun i => (i.zero, i.size, i.bytes)) = some (some (.bool false), 1, 1) := by kernel_rfl

/-- The row after k rounds: the first k cells are filled, the others hold z. -/
def fill (z : Value) (f : Nat → Value) (k j : Nat) : Value := if j < k then f j else z

theorem Row.fill_start {w : World} {b n : Nat} {z : Value} (f : Nat → Value) (h : Row w b n (fun _ => z)) : Row w b n (fill z f 0) := h.congr fun j _ => by simp [fill]
theorem Row.fill_step {w : World} {b n k : Nat} {z : Value} {f : Nat → Value} (h : Row w b n (fill z f k)) (hk : k < n) : Row (w.setCell ⟨b, k, none⟩ (f k)) b n (fill z f (k + 1)) := by
  refine (h.put hk (f k)).congr fun j _ => ?_
  unfold fill
  by_cases e : j = k
  · subst e; simp
  · by_cases e2 : j < k
    · rw [if_neg e, if_pos e2, if_pos (by omega)]
    · rw [if_neg e, if_neg e2, if_neg (by omega)]
theorem Row.fill_end {w : World} {b n k : Nat} {z : Value} {f : Nat → Value} (h : Row w b n (fill z f k)) (hk : n ≤ k) : Row w b n f :=
  h.congr fun j hj => by unfold fill; rw [if_pos (by omega)]

set_option maxHeartbeats 400000 in
theorem cloneStrs_some (a : Addr) (n c : Nat) (s : Nat → ByteArray) (w : World) (hv : View w (some a) n (fun j => .string (s j))) (hn : n ≤ 65536) :
    Calls Uapg.prog 9 #[.slice (some a) n c] w fun e w' => e = .returned (.slice (some ⟨w.heap.size, 0, none⟩) n n) ∧ Row w' w.heap.size n (fun j => .string (s j)) ∧ Below w.heap.size w w' := by
  have HV : Hid (View w (some a) n (fun j => .string (s j))) := hv
  clear hv
  have hnil := fun wx => Lib.run_eql_slice_nil (P := Uapg.prog) wx 22 9 (some a) n c 0 0 Uapg.underlying22
  have hmk := run_make_row' (P := Uapg.prog) 22 9 (.string ByteArray.empty) 16 Uapg.underlying22 Uapg.info9 rfl .i64 .i64 n (by omega) (by omega)
  go_enter Uapg.func9, Uapg.ntmps9
  go_wp2
  clear hmk hnil
  go_loopw [4] (fun i wr => ∃ k : Nat, k ≤ n ∧ i = .int .i64 k ∧ Row wr w.heap.size n (fill (.string ByteArray.empty) (fun j => .string (s j)) k) ∧ Below w.heap.size w wr) (fun i _ => n - (intOf i).toNat)
  case atStart => exact ⟨0, Nat.zero_le _, rfl, Row.fill_start _ (Row.made _ _ _ _), (Below.refl _ _).alloc (Nat.le_refl _) _⟩
  case round =>
    obtain ⟨k, hk, rfl, hr, hb⟩ := hrel
    have HR : Hid (Row wr w.heap.size n (fill (.string ByteArray.empty) (fun j => .string (s j)) k)) := hr
    have HB : Hid (Below w.heap.size w wr) := hb
    by_cases hlt : k < n
    · obtain ⟨b, off, e, hbs, hc⟩ := HV.out.look hlt
      have hck := (hb.cell (p := ⟨b, off + k, none⟩) hbs).trans (hc k hlt)
      obtain ⟨h1, h2⟩ := hr.2 k hlt
      obtain rfl := Option.some.inj e
      have hs := hr.1
      clear hc hr hb e
      go_wp2
      go_roundw
      case rel => exact ⟨k + 1, by omega, by go_num, HR.out.fill_step hlt, HB.out.setCell (by exact Nat.le_refl _) _⟩
      case measure => simp [intOf]; omega
    · clear hr hb
      go_wp2
      go_ret
      exact ⟨rfl, HR.out.fill_end (by omega), HB.out⟩

set_option maxHeartbeats 400000 in
theorem cloneStrs_none (c : Nat) (w : World) : Calls Uapg.prog 9 #[.slice none 0 c] w fun e w' => e = .returned (.slice none 0 0) ∧ w' = w := by
  have hnil := fun wx => Lib.run_eql_slice_nil (P := Uapg.prog) wx 22 9 none 0 c 0 0 Uapg.underlying22
  go_enter Uapg.func9, Uapg.ntmps9
  go_wp2
  go_ret
  exact ⟨rfl, rfl⟩

theorem cloneStrs_any (ad : Option Addr) (n c : Nat) (s : Nat → ByteArray) (w : World) (hv : View w ad n (fun j => .string (s j))) (hn : n ≤ 65536) :
    Calls Uapg.prog 9 #[.slice ad n c] w fun e w' => ∃ ad', e = .returned (.slice ad' n n) ∧ View w' ad' n (fun j => .string (s j)) ∧ Below w.heap.size w w' := by
  cases ad with
  | none =>
    have h0 : n = 0 := by
      rcases hv with h | ⟨b, off, e, _⟩
      · exact h
      · cases e
    subst h0
    refine (cloneStrs_none c w).mono ?_
    rintro e w' ⟨rfl, rfl⟩
    exact ⟨none, rfl, Or.inl rfl, Below.refl _ _⟩
  | some a =>
    refine (cloneStrs_some a n c s w hv hn).mono ?_
    rintro e w' ⟨rfl, hr, hb⟩
    exact ⟨_, rfl, hr.view, hb⟩

set_option maxHeartbeats 400000 in
theorem cloneBools_some (a : Addr) (n c : Nat) (s : Nat → Bool) (w : World) (hv : View w (some a) n (fun j => .bool (s j))) (hn : n ≤ 65536) :
    Calls Uapg.prog 19 #[.slice (some a) n c] w fun e w' => e = .returned (.slice (some ⟨w.heap.size, 0, none⟩) n n) ∧ Row w' w.heap.size n (fun j => .bool (s j)) ∧ Below w.heap.size w w' := by
  have HV : Hid (View w (some a) n (fun j => .bool (s j))) := hv
  clear hv
  have hnil := fun wx => Lib.run_eql_slice_nil (P := Uapg.prog) wx 36 4 (some a) n c 0 0 Uapg.underlying36
  have hmk := run_make_row' (P := Uapg.prog) 36 4 (.bool false) 1 Uapg.underlying36 Uapg.info4 rfl .i64 .i64 n (by omega) (by omega)
  go_enter Uapg.func19, Uapg.ntmps19
  go_wp2
  clear hmk hnil
  go_loopw [4] (fun i wr => ∃ k : Nat, k ≤ n ∧ i = .int .i64 k ∧ Row wr w.heap.size n (fill (.bool false) (fun j => .bool (s j)) k) ∧ Below w.heap.size w wr) (fun i _ => n - (intOf i).toNat)
  case atStart => exact ⟨0, Nat.zero_le _, rfl, Row.fill_start _ (Row.made _ _ _ _), (Below.refl _ _).alloc (Nat.le_refl _) _⟩
  case round =>
    obtain ⟨k, hk, rfl, hr, hb⟩ := hrel
    have HR : Hid (Row wr w.heap.size n (fill (.bool false) (fun j => .bool (s j)) k)) := hr
    have HB : Hid (Below w.heap.size w wr) := hb
    by_cases hlt : k < n
    · obtain ⟨b, off, e, hbs, hc⟩ := HV.out.look hlt
      have hck := (hb.cell (p := ⟨b, off + k, none⟩) hbs).trans (hc k hlt)
      obtain ⟨h1, h2⟩ := hr.2 k hlt
      obtain rfl := Option.some.inj e
      have hs := hr.1
      clear hc hr hb e
      go_wp2
      go_roundw
      case rel => exact ⟨k + 1, by omega, by go_num, HR.out.fill_step hlt, HB.out.setCell (by exact Nat.le_refl _) _⟩
      case measure => simp [intOf]; omega
    · clear hr hb
      go_wp2
      go_ret
      exact ⟨rfl, HR.out.fill_end (by omega), HB.out⟩

set_option maxHeartbeats 400000 in
theorem cloneBools_none (c : Nat) (w : World) : Calls Uapg.prog 19 #[.slice none 0 c] w fun e w' => e = .returned (.slice none 0 0) ∧ w' = w := by
  have hnil := fun wx => Lib.run_eql_slice_nil (P := Uapg.prog) wx 36 4 none 0 c 0 0 Uapg.underlying36
  go_enter Uapg.func19, Uapg.ntmps19
  go_wp2
  go_ret
  exact ⟨rfl, rfl⟩

theorem cloneBools_any (ad : Option Addr) (n c : Nat) (s : Nat → Bool) (w : World) (hv : View w ad n (fun j => .bool (s j))) (hn : n ≤ 65536) :
    Calls Uapg.prog 19 #[.slice ad n c] w fun e w' => ∃ ad', e = .returned (.slice ad' n n) ∧ View w' ad' n (fun j => .bool (s j)) ∧ Below w.heap.size w w' := by
  cases ad with
  | none =>
    have h0 : n = 0 := by
      rcases hv with h | ⟨b, off, e, _⟩
      · exact h
      · cases e
    subst h0
    refine (cloneBools_none c w).mono ?_
    rintro e w' ⟨rfl, rfl⟩
    exact ⟨none, rfl, Or.inl rfl, Below.refl _ _⟩
  | some a =>
    refine (cloneBools_some a n c s w hv hn).mono ?_
    rintro e w' ⟨rfl, hr, hb⟩
    exact ⟨_, rfl, hr.view, hb⟩

end Go.Proofs.Youapw
