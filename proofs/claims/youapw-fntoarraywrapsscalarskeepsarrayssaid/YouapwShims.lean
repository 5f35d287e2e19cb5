/-
  THE SEAT ouap. The shims ZZtoArray.., and sameStrings_b10.
-/
import Derived.Test.YouapwToArray
namespace Go.Proofs.Youapw
open Go.RowKit

theorem one_cell (w : World) (v : Value) (t : TypeId) : (w.alloc (.cells #[v] t)).cell? ⟨w.heap.size, 0, none⟩ = some v := by
  rw [World.cell?_alloc_new]; rfl
theorem one_below (w : World) (o : Obj) : Below w.heap.size w (w.alloc o) := (Below.refl _ _).alloc (Nat.le_refl _) o
theorem one_view (w : World) (v : Value) (t : TypeId) : View (w.alloc (.cells #[v] t)) (some ⟨w.heap.size, 0, none⟩) 1 (fun _ => v) :=
  Or.inr ⟨w.heap.size, 0, rfl, by simp, fun j hj => by obtain rfl : j = 0 := by omega
                                                       exact one_cell w v t⟩
theorem two_cell (w : World) (o : Obj) (v : Value) (t : TypeId) : ((w.alloc o).alloc (.cells #[v] t)).cell? ⟨w.heap.size + 1, 0, none⟩ = some v := by
  have h := one_cell (w.alloc o) v t
  rw [World.size_alloc] at h
  exact h

theorem stringsOut_view (ad : Option Addr) (n c : Nat) (s : Nat → ByteArray) (w : World) (hv : View w ad n (fun j => .iface 9 (.string (s j)))) (hn : n ≤ 70000) :
    Calls Uapg.prog 23 #[.iface 46 (.slice ad n c)] w fun e w' => ∃ ad', e = .returned (.tuple #[.slice ad' n n, .bool true]) ∧ View w' ad' n (fun j => .string (s j)) ∧ Below w.heap.size w w' :=
  (stringsOut_any ad n c s w hv hn).mono fun _ _ ⟨he, hr, hb⟩ => ⟨_, he, hr.view, hb⟩

set_option maxHeartbeats 400000 in
theorem scalarString_any (x : ByteArray) (w : World) :
    Calls Uapg.prog 10 #[.string x] w fun e w' => ∃ ad, e = .returned (.tuple #[.slice ad 1 1, .bool true]) ∧ View w' ad 1 (fun _ => .string x) ∧ Below w.heap.size w w' := by
  go_enter Uapg.func10, Uapg.ntmps10
  go_wp2_with fail
  refine (toArray_str _ _ _ (one_cell _ _ _)).mono ?_
  rintro e w1 ⟨rfl, rfl⟩
  go_wp2_with fail
  refine (stringsOut_view _ 1 1 (fun _ => x) _ (one_view _ _ _) (by omega)).mono ?_
  rintro e w2 ⟨ad, rfl, hr, hb⟩
  have HR : Hid (View w2 ad 1 (fun _ => .string x)) := hr
  have HB : Hid (Below w.heap.size w w2) := (one_below _ _).trans (hb.mono (by simp))
  clear hr hb
  go_wp2_with fail
  go_ret2
  exact ⟨_, rfl, HR.out, HB.out⟩

set_option maxHeartbeats 400000 in
theorem twiceString_any (x : ByteArray) (w : World) :
    Calls Uapg.prog 16 #[.string x] w fun e w' => ∃ ad, e = .returned (.tuple #[.slice ad 1 1, .bool true]) ∧ View w' ad 1 (fun _ => .string x) ∧ Below w.heap.size w w' := by
  go_enter Uapg.func16, Uapg.ntmps16
  go_wp2_with fail
  refine (toArray_str _ _ _ (one_cell _ _ _)).mono ?_
  rintro e w1 ⟨rfl, rfl⟩
  go_wp2_with fail
  refine (toArray_arr _ _ _ _ _ (two_cell _ _ _ _)).mono ?_
  rintro e w1 ⟨rfl, rfl⟩
  go_wp2_with fail
  refine (stringsOut_view _ 1 1 (fun _ => x) _ ((one_view _ _ _).below (one_below _ _) (Nat.le_refl _)) (by omega)).mono ?_
  rintro e w2 ⟨ad, rfl, hr, hb⟩
  have HR : Hid (View w2 ad 1 (fun _ => .string x)) := hr
  have HB : Hid (Below w.heap.size w w2) := ((one_below _ _).trans ((one_below _ _).mono (by simp))).trans (hb.mono (by simp; omega))
  clear hr hb
  go_wp2_with fail
  go_ret2
  exact ⟨_, rfl, HR.out, HB.out⟩

set_option maxHeartbeats 400000 in
theorem ofList_any (ad : Option Addr) (n c : Nat) (s : Nat → ByteArray) (w : World) (hv : View w ad n (fun j => .string (s j))) (hn : n ≤ 70000) :
    Calls Uapg.prog 13 #[.slice ad n c] w fun e w' => ∃ ad', e = .returned (.tuple #[.slice ad' n n, .bool true]) ∧ View w' ad' n (fun j => .string (s j)) ∧ Below w.heap.size w w' := by
  have HV : Hid (View w ad n (fun j => .string (s j))) := hv
  clear hv
  go_enter Uapg.func13, Uapg.ntmps13
  go_wp2_with fail
  refine (stringsIn_any ad n c s _ HV.out hn).mono ?_
  rintro e w1 ⟨rfl, hr, hb⟩
  have HR : Hid (View w1 (some ⟨w.heap.size, 0, none⟩) n (fun j => .iface 9 (.string (s j)))) := hr.view
  have HB : Hid (Below w.heap.size w w1) := hb
  clear hr hb HV
  go_wp2_with fail
  refine (toArray_arr _ _ _ _ _ (one_cell _ _ _)).mono ?_
  rintro e w2 ⟨rfl, rfl⟩
  go_wp2_with fail
  refine (stringsOut_view _ n n s _ (HR.out.below (one_below _ _) (Nat.le_refl _)) hn).mono ?_
  rintro e w3 ⟨ad', rfl, hr, hb⟩
  have HR3 : Hid (View w3 ad' n (fun j => .string (s j))) := hr
  have HB3 : Hid (Below w.heap.size w w3) := (HB.out.trans ((one_below _ _).mono HB.out.size)).trans (hb.mono (by have := HB.out.size; simp; omega))
  clear hr hb HR HB
  go_wp2_with fail
  go_ret2
  exact ⟨_, rfl, HR3.out, HB3.out⟩

set_option maxHeartbeats 400000 in
theorem twiceList_any (ad : Option Addr) (n c : Nat) (s : Nat → ByteArray) (w : World) (hv : View w ad n (fun j => .string (s j))) (hn : n ≤ 70000) :
    Calls Uapg.prog 17 #[.slice ad n c] w fun e w' => ∃ ad', e = .returned (.tuple #[.slice ad' n n, .bool true]) ∧ View w' ad' n (fun j => .string (s j)) ∧ Below w.heap.size w w' := by
  have HV : Hid (View w ad n (fun j => .string (s j))) := hv
  clear hv
  go_enter Uapg.func17, Uapg.ntmps17
  go_wp2_with fail
  refine (stringsIn_any ad n c s _ HV.out hn).mono ?_
  rintro e w1 ⟨rfl, hr, hb⟩
  have HR : Hid (View w1 (some ⟨w.heap.size, 0, none⟩) n (fun j => .iface 9 (.string (s j)))) := hr.view
  have HB : Hid (Below w.heap.size w w1) := hb
  clear hr hb HV
  go_wp2_with fail
  refine (toArray_arr _ _ _ _ _ (one_cell _ _ _)).mono ?_
  rintro e w2 ⟨rfl, rfl⟩
  go_wp2_with fail
  refine (toArray_arr _ _ _ _ _ (two_cell _ _ _ _)).mono ?_
  rintro e w2 ⟨rfl, rfl⟩
  go_wp2_with fail
  refine (stringsOut_view _ n n s _ ((HR.out.below (one_below _ _) (Nat.le_refl _)).below (one_below _ _) (Nat.le_refl _)) hn).mono ?_
  rintro e w3 ⟨ad', rfl, hr, hb⟩
  have HR3 : Hid (View w3 ad' n (fun j => .string (s j))) := hr
  have HB3 : Hid (Below w.heap.size w w3) := ((HB.out.trans ((one_below _ _).mono HB.out.size)).trans ((one_below _ _).mono (by have := HB.out.size; simp; omega))).trans (hb.mono (by have := HB.out.size; simp; omega))
  clear hr hb HR HB
  go_wp2_with fail
  go_ret2
  exact ⟨_, rfl, HR3.out, HB3.out⟩

set_option maxHeartbeats 400000 in
theorem scalarFloat_any (x : Nat) (w : World) :
    Calls Uapg.prog 11 #[.float .f64 x] w fun e w' => e = .returned (.tuple #[.int .i64 1, .float .f64 x, .bool true]) ∧ Below w.heap.size w w' := by
  have has1 := Uapg.as46_46
  have has2 := Uapg.as23_23
  go_enter Uapg.func11, Uapg.ntmps11
  go_wp2_with fail
  refine (toArray_float _ _ _ (one_cell _ _ _)).mono ?_
  rintro e w1 ⟨rfl, rfl⟩
  go_wp2_with fail
  go_ret3
  exact ⟨rfl, one_below _ _⟩

set_option maxHeartbeats 400000 in
theorem same_any (ad : Option Addr) (c : Nat) (ad' : Option Addr) (c' : Nat) (n : Nat) (s : Nat → ByteArray) (w : World) (hv : View w ad n (fun j => .string (s j))) (hv' : View w ad' n (fun j => .string (s j))) (hn : n ≤ 70000) :
    Calls Uapg.prog 14 #[.slice ad n c, .slice ad' n c'] w fun e w' => e = .returned (.bool true) ∧ Below w.heap.size w w' := by
  have HV : Hid (View w ad n (fun j => .string (s j))) := hv
  have HV' : Hid (View w ad' n (fun j => .string (s j))) := hv'
  clear hv hv'
  go_enter Uapg.func14, Uapg.ntmps14
  go_wp2
  go_loopw [5] (fun i wr => ∃ k : Nat, k ≤ n ∧ i = .int .i64 k ∧ Below w.heap.size w wr) (fun i _ => n - (intOf i).toNat)
  case atStart => exact ⟨0, Nat.zero_le _, rfl, Below.refl _ _⟩
  case round =>
    obtain ⟨k, hk, rfl, hb⟩ := hrel
    have HB : Hid (Below w.heap.size w wr) := hb
    by_cases hlt : k < n
    · obtain ⟨b, off, e, hbs, hc⟩ := HV.out.look hlt
      have hck := (hb.cell (p := ⟨b, off + k, none⟩) hbs).trans (hc k hlt)
      obtain ⟨b', off', e', hbs', hc'⟩ := HV'.out.look hlt
      have hck' := (hb.cell (p := ⟨b', off' + k, none⟩) hbs').trans (hc' k hlt)
      have hli : (k : Int) < (n : Int) := by omega
      clear hc hc' hb
      rw [e, e']
      go_wp2
      go_quiet (fail)
      go_wp2
      go_roundw
      case rel => exact ⟨k + 1, by omega, by go_num, below_drewN HB.out _⟩
      case measure => simp [intOf]; omega
    · clear hb
      go_wp2
      go_ret
      exact ⟨rfl, HB.out⟩

end Go.Proofs.Youapw
