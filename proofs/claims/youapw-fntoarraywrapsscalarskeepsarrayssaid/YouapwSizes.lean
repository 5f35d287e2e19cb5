/-
  THE SEAT ouap. strBytes_b10 and the four zzBytes_: each returns; the world stands as it was. WHAT they answer is not needed: both answers of each test lead the laws to true.
-/
import Derived.Test.YouapwViews
namespace Go.Proofs.Youapw
open Go.RowKit

def SomeBool (e : Ending) : Prop := ∃ r : Bool, e = .returned (.bool r)

set_option maxHeartbeats 400000 in
theorem strBytes_any (ad : Option Addr) (n c : Nat) (s : Nat → ByteArray) (w : World) (hv : View w ad n (fun j => .string (s j))) (hn : n ≤ maxLen) :
    Calls Uapg.prog 8 #[.slice ad n c] w fun e w' => (∃ t : Int, e = .returned (.int .i64 t)) ∧ w' = w := by
  unfold maxLen at hn
  have HV : Hid (View w ad n (fun j => .string (s j))) := hv
  clear hv
  go_enter Uapg.func8, Uapg.ntmps8
  go_wp2
  go_loop [3, 4] (fun t i => ∃ (k : Nat) (u : Int), k ≤ n ∧ i = .int .i64 k ∧ t = .int .i64 u) (fun _ i => n - (intOf i).toNat)
  case atStart => exact ⟨0, 0, Nat.zero_le _, rfl, rfl⟩
  case round =>
    obtain ⟨k, u, hk, rfl, rfl⟩ := hrel
    by_cases hlt : k < n
    · obtain ⟨b, off, e, _, hc⟩ := HV.out.look hlt
      have hck := hc k hlt
      clear hc
      rw [e]
      go_wp2
      · go_ret
        exact ⟨⟨_, rfl⟩, rfl⟩
      · go_round
        case rel => exact ⟨k + 1, _, by omega, by go_num, rfl⟩
        case measure => simp [intOf]; omega
    · go_wp2
      go_ret
      exact ⟨⟨_, rfl⟩, rfl⟩

set_option maxHeartbeats 1000000 in
theorem bytesFirst_any (ap : Option Addr) (m c' : Nat) (ad : Option Addr) (n c : Nat) (s : Nat → ByteArray) (w : World) (hv : View w ad n (fun j => .string (s j))) (hn : n ≤ maxLen) (hm : m ≤ maxLen) :
    Calls Uapg.prog 18 #[.slice ap m c', .slice ad n c] w fun e w' => SomeBool e ∧ w' = w := by
  unfold maxLen at hn hm
  have HV : Hid (View w ad n (fun j => .string (s j))) := hv
  clear hv
  go_enter Uapg.func18, Uapg.ntmps18
  go_wp2
  · go_ret
    exact ⟨⟨_, rfl⟩, rfl⟩
  · go_ret
    exact ⟨⟨_, rfl⟩, rfl⟩
  · go_ret
    exact ⟨⟨_, rfl⟩, rfl⟩
  · go_loop [5, 6] (fun t i => ∃ (k : Nat) (u : Int), k ≤ n ∧ i = .int .i64 k ∧ t = .int .i64 u) (fun _ i => n - (intOf i).toNat)
    case atStart => exact ⟨0, _, Nat.zero_le _, rfl, rfl⟩
    case round =>
      obtain ⟨k, u, hk, rfl, rfl⟩ := hrel
      by_cases hlt : k < n
      · obtain ⟨b, off, e, _, hc⟩ := HV.out.look hlt
        have hck := hc k hlt
        clear hc
        rw [e]
        go_wp2
        · go_ret
          exact ⟨⟨_, rfl⟩, rfl⟩
        · go_ret
          exact ⟨⟨_, rfl⟩, rfl⟩
        · go_round
          case rel => exact ⟨k + 1, _, by omega, by go_num, rfl⟩
          case measure => simp [intOf]; omega
      · go_wp2
        go_ret
        exact ⟨⟨_, rfl⟩, rfl⟩

set_option maxHeartbeats 1000000 in
theorem bytesPrefix_any (ap : Option Addr) (m c' : Nat) (x : Int) (ad : Option Addr) (n c : Nat) (s : Nat → ByteArray) (w : World) (hv : View w ad n (fun j => .string (s j))) (hn : n ≤ maxLen) (hm : m ≤ maxLen) :
    Calls Uapg.prog 21 #[.slice ap m c', .slice ad n c, .int .i64 x] w fun e w' => SomeBool e ∧ w' = w := by
  unfold maxLen at hn hm
  have HV : Hid (View w ad n (fun j => .string (s j))) := hv
  clear hv
  go_enter Uapg.func21, Uapg.ntmps21
  go_wp2
  · go_ret
    exact ⟨⟨_, rfl⟩, rfl⟩
  · go_ret
    exact ⟨⟨_, rfl⟩, rfl⟩
  · go_ret
    exact ⟨⟨_, rfl⟩, rfl⟩
  · go_loop [7, 8] (fun t i => ∃ (k : Nat) (u : Int), k ≤ n ∧ i = .int .i64 k ∧ t = .int .i64 u) (fun _ i => n - (intOf i).toNat)
    case atStart => exact ⟨0, _, Nat.zero_le _, rfl, rfl⟩
    case round =>
      obtain ⟨k, u, hk, rfl, rfl⟩ := hrel
      by_cases hlt : k < n
      · obtain ⟨b, off, e, _, hc⟩ := HV.out.look hlt
        have hck := hc k hlt
        clear hc
        rw [e]
        go_wp2
        · go_ret
          exact ⟨⟨_, rfl⟩, rfl⟩
        · go_ret
          exact ⟨⟨_, rfl⟩, rfl⟩
        · go_round
          case rel => exact ⟨k + 1, _, by omega, by go_num, rfl⟩
          case measure => simp [intOf]; omega
      · go_wp2
        go_ret
        exact ⟨⟨_, rfl⟩, rfl⟩

set_option maxHeartbeats 1000000 in
theorem bytesIdem_any (q : ByteArray) (ad : Option Addr) (n c : Nat) (s : Nat → ByteArray) (w : World) (hv : View w ad n (fun j => .string (s j))) (hn : n ≤ maxLen) (hq : q.size ≤ maxLen) :
    Calls Uapg.prog 15 #[.string q, .slice ad n c] w fun e w' => SomeBool e ∧ w' = w := by
  unfold maxLen at hn hq
  have HV : Hid (View w ad n (fun j => .string (s j))) := hv
  clear hv
  go_enter Uapg.func15, Uapg.ntmps15
  go_wp2
  · go_ret
    exact ⟨⟨_, rfl⟩, rfl⟩
  · go_ret
    exact ⟨⟨_, rfl⟩, rfl⟩
  · go_ret
    exact ⟨⟨_, rfl⟩, rfl⟩
  · go_loop [5, 6] (fun t i => ∃ (k : Nat) (u : Int), k ≤ n ∧ i = .int .i64 k ∧ t = .int .i64 u) (fun _ i => n - (intOf i).toNat)
    case atStart => exact ⟨0, _, Nat.zero_le _, rfl, rfl⟩
    case round =>
      obtain ⟨k, u, hk, rfl, rfl⟩ := hrel
      by_cases hlt : k < n
      · obtain ⟨b, off, e, _, hc⟩ := HV.out.look hlt
        have hck := hc k hlt
        clear hc
        rw [e]
        go_wp2
        · go_ret
          exact ⟨⟨_, rfl⟩, rfl⟩
        · go_ret
          exact ⟨⟨_, rfl⟩, rfl⟩
        · go_round
          case rel => exact ⟨k + 1, _, by omega, by go_num, rfl⟩
          case measure => simp [intOf]; omega
      · go_wp2
        go_ret
        exact ⟨⟨_, rfl⟩, rfl⟩

set_option maxHeartbeats 1000000 in
theorem bytesWraps_any (q : ByteArray) (x : Nat) (ad : Option Addr) (n c : Nat) (s : Nat → ByteArray) (w : World) (hv : View w ad n (fun j => .string (s j))) (hn : n ≤ maxLen) (hq : q.size ≤ maxLen) :
    Calls Uapg.prog 7 #[.string q, .slice ad n c, .float .f64 x] w fun e w' => SomeBool e ∧ w' = w := by
  unfold maxLen at hn hq
  have HV : Hid (View w ad n (fun j => .string (s j))) := hv
  clear hv
  go_enter Uapg.func7, Uapg.ntmps7
  go_wp2
  · go_ret
    exact ⟨⟨_, rfl⟩, rfl⟩
  · go_ret
    exact ⟨⟨_, rfl⟩, rfl⟩
  · go_ret
    exact ⟨⟨_, rfl⟩, rfl⟩
  · go_loop [7, 8] (fun t i => ∃ (k : Nat) (u : Int), k ≤ n ∧ i = .int .i64 k ∧ t = .int .i64 u) (fun _ i => n - (intOf i).toNat)
    case atStart => exact ⟨0, _, Nat.zero_le _, rfl, rfl⟩
    case round =>
      obtain ⟨k, u, hk, rfl, rfl⟩ := hrel
      by_cases hlt : k < n
      · obtain ⟨b, off, e, _, hc⟩ := HV.out.look hlt
        have hck := hc k hlt
        clear hc
        rw [e]
        go_wp2
        · go_ret
          exact ⟨⟨_, rfl⟩, rfl⟩
        · go_ret
          exact ⟨⟨_, rfl⟩, rfl⟩
        · go_round
          case rel => exact ⟨k + 1, _, by omega, by go_num, rfl⟩
          case measure => simp [intOf]; omega
      · go_wp2
        go_ret
        exact ⟨⟨_, rfl⟩, rfl⟩

end Go.Proofs.Youapw
