/-
  Seat b6602345a. The four 'zzBytes_..' that the laws ask first: each reads lengths, returns a bool, and turns nothing.
-/
import Derived.Test.Qxb6602345aKit
namespace Go.Proofs.Qxb6602345a
open Go.RowKit

set_option maxHeartbeats 1000000 in
theorem bytesNamed_any (a : Option Addr) (len cap : Nat) (R : Nat → Rw) (s : ByteArray) (w : World) (hl : len ≤ maxLen) (ht : Tab w a len R) :
    Calls Try.prog 19 #[.slice a len cap, .string s] w fun e w' => SomeBool e ∧ w' = w := by
  unfold maxLen at hl
  by_cases h1 : (1048576 : Int) < len
  · go_enter Try.func19, Try.ntmps19
    go_wp2
    go_ret
    exact ⟨⟨_, rfl⟩, rfl⟩
  · have hd : decide ((1048576 : Int) < len) = false := by simpa using h1
    go_enter Try.func19, Try.ntmps19
    go_wp2
    go_loop [5, 6] (fun z i => ∃ (n : Int) (k : Nat), k ≤ len ∧ z = .int .i64 n ∧ i = .int .i64 k) (fun _ i => len - (intOf i).toNat)
    case atStart => exact ⟨_, 0, Nat.zero_le _, rfl, rfl⟩
    case round =>
      obtain ⟨n, k, hk, rfl, rfl⟩ := hrel
      by_cases hlt : k < len
      · obtain ⟨b, off, rfl, hb, hc⟩ := ht (by omega)
        obtain ⟨c0, c1, c2, c3⟩ := hc k hlt
        clear hc
        go_wp2
        case roundEnd =>
          go_round
          case rel => exact ⟨_, k + 1, by omega, rfl, by go_num⟩
          case measure => simp [intOf]; omega
        all_goals
          go_ret
          exact ⟨⟨_, rfl⟩, rfl⟩
      · go_wp2
        all_goals
          go_ret
          exact ⟨⟨_, rfl⟩, rfl⟩

set_option maxHeartbeats 1000000 in
theorem bytesMatch_any (a : Option Addr) (len cap : Nat) (R : Nat → Rw) (s : ByteArray) (w : World) (hl : len ≤ maxLen) (ht : Tab w a len R) :
    Calls Try.prog 10 #[.slice a len cap, .string s] w fun e w' => SomeBool e ∧ w' = w := by
  unfold maxLen at hl
  by_cases h1 : (1048576 : Int) < len
  · go_enter Try.func10, Try.ntmps10
    go_wp2
    go_ret
    exact ⟨⟨_, rfl⟩, rfl⟩
  · have hd : decide ((1048576 : Int) < len) = false := by simpa using h1
    go_enter Try.func10, Try.ntmps10
    go_wp2
    go_loop [5, 6] (fun z i => ∃ (n : Int) (k : Nat), k ≤ len ∧ z = .int .i64 n ∧ i = .int .i64 k) (fun _ i => len - (intOf i).toNat)
    case atStart => exact ⟨_, 0, Nat.zero_le _, rfl, rfl⟩
    case round =>
      obtain ⟨n, k, hk, rfl, rfl⟩ := hrel
      by_cases hlt : k < len
      · obtain ⟨b, off, rfl, hb, hc⟩ := ht (by omega)
        obtain ⟨c0, c1, c2, c3⟩ := hc k hlt
        clear hc
        go_wp2
        case roundEnd =>
          go_round
          case rel => exact ⟨_, k + 1, by omega, rfl, by go_num⟩
          case measure => simp [intOf]; omega
        all_goals
          go_ret
          exact ⟨⟨_, rfl⟩, rfl⟩
      · go_wp2
        all_goals
          go_ret
          exact ⟨⟨_, rfl⟩, rfl⟩

set_option maxHeartbeats 1000000 in
theorem bytesOwn_any (a : Option Addr) (len cap : Nat) (R : Nat → Rw) (s : Int) (w : World) (hl : len ≤ maxLen) (ht : Tab w a len R) :
    Calls Try.prog 18 #[.slice a len cap, .int .i64 s] w fun e w' => SomeBool e ∧ w' = w := by
  unfold maxLen at hl
  by_cases h1 : (1048576 : Int) < len
  · go_enter Try.func18, Try.ntmps18
    go_wp2
    go_ret
    exact ⟨⟨_, rfl⟩, rfl⟩
  · have hd : decide ((1048576 : Int) < len) = false := by simpa using h1
    go_enter Try.func18, Try.ntmps18
    go_wp2
    go_loop [5, 6] (fun z i => ∃ (n : Int) (k : Nat), k ≤ len ∧ z = .int .i64 n ∧ i = .int .i64 k) (fun _ i => len - (intOf i).toNat)
    case atStart => exact ⟨_, 0, Nat.zero_le _, rfl, rfl⟩
    case round =>
      obtain ⟨n, k, hk, rfl, rfl⟩ := hrel
      by_cases hlt : k < len
      · obtain ⟨b, off, rfl, hb, hc⟩ := ht (by omega)
        obtain ⟨c0, c1, c2, c3⟩ := hc k hlt
        clear hc
        go_wp2
        case roundEnd =>
          go_round
          case rel => exact ⟨_, k + 1, by omega, rfl, by go_num⟩
          case measure => simp [intOf]; omega
        all_goals
          go_ret
          exact ⟨⟨_, rfl⟩, rfl⟩
      · go_wp2
        all_goals
          go_ret
          exact ⟨⟨_, rfl⟩, rfl⟩

set_option maxHeartbeats 1000000 in
theorem bytesMax_any (a : Option Addr) (len cap : Nat) (R : Nat → Rw) (w : World) (hl : len ≤ maxLen) (ht : Tab w a len R) :
    Calls Try.prog 22 #[.slice a len cap] w fun e w' => SomeBool e ∧ w' = w := by
  unfold maxLen at hl
  by_cases h1 : (1048576 : Int) < len
  · go_enter Try.func22, Try.ntmps22
    go_wp2
    go_ret
    exact ⟨⟨_, rfl⟩, rfl⟩
  · have hd : decide ((1048576 : Int) < len) = false := by simpa using h1
    go_enter Try.func22, Try.ntmps22
    go_wp2
    go_loop [3, 4] (fun z i => ∃ (n : Int) (k : Nat), k ≤ len ∧ z = .int .i64 n ∧ i = .int .i64 k) (fun _ i => len - (intOf i).toNat)
    case atStart => exact ⟨_, 0, Nat.zero_le _, rfl, rfl⟩
    case round =>
      obtain ⟨n, k, hk, rfl, rfl⟩ := hrel
      by_cases hlt : k < len
      · obtain ⟨b, off, rfl, hb, hc⟩ := ht (by omega)
        obtain ⟨c0, c1, c2, c3⟩ := hc k hlt
        clear hc
        go_wp2
        case roundEnd =>
          go_round
          case rel => exact ⟨_, k + 1, by omega, rfl, by go_num⟩
          case measure => simp [intOf]; omega
        all_goals
          go_ret
          exact ⟨⟨_, rfl⟩, rfl⟩
      · go_wp2
        all_goals
          go_ret
          exact ⟨⟨_, rfl⟩, rfl⟩

end Go.Proofs.Qxb6602345a
