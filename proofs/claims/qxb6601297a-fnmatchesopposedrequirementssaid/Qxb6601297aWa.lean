/-
  Seat b6601297a. 'zzBytes_..', 'labelBytesKIb1': lengths are read, nothing turns.
-/
import Derived.Test.Qxb6601297aKit
import Derived.Deep.QuietTactic
import Derived.BigQuiet
namespace Go.Proofs.Qxb6601297a
open Go.RowKit

set_option maxHeartbeats 1000000 in
theorem bytes_any (k v : ByteArray) (a : Option Addr) (len cap : Nat) (L : Nat → Lb) (w : World) (hl : len ≤ maxLen) (ht : Tab w a len L) :
    Calls Try.prog 11 #[.string k, .string v, .slice a len cap] w fun e w' => SomeBool e ∧ w' = w := by
  unfold maxLen at hl
  by_cases h1 : (1048576 : Int) < k.size
  · go_enter Try.func11, Try.ntmps11
    go_wp2
    go_ret
    exact ⟨⟨_, rfl⟩, rfl⟩
  by_cases h2 : (1048576 : Int) < v.size
  · go_enter Try.func11, Try.ntmps11
    go_wp2
    go_ret
    exact ⟨⟨_, rfl⟩, rfl⟩
  by_cases h3 : (1048576 : Int) < k.size + v.size
  · go_enter Try.func11, Try.ntmps11
    go_wp2
    go_ret
    exact ⟨⟨_, rfl⟩, rfl⟩
  by_cases h4 : (1048576 : Int) < len
  · go_enter Try.func11, Try.ntmps11
    go_wp2
    go_ret
    exact ⟨⟨_, rfl⟩, rfl⟩
  by_cases h5 : (1048576 : Int) < k.size + v.size + len
  · go_enter Try.func11, Try.ntmps11
    go_wp2
    go_ret
    exact ⟨⟨_, rfl⟩, rfl⟩
  have d1 : decide ((1048576 : Int) < k.size) = false := by simpa using h1
  have d2 : decide ((1048576 : Int) < v.size) = false := by simpa using h2
  have d3 : decide ((1048576 : Int) < k.size + v.size) = false := by simpa using h3
  have d4 : decide ((1048576 : Int) < len) = false := by simpa using h4
  have d5 : decide ((1048576 : Int) < k.size + v.size + len) = false := by simpa using h5
  go_enter Try.func11, Try.ntmps11
  go_wp2
  go_loop [7, 8] (fun z i => ∃ (n : Int) (j : Nat), j ≤ len ∧ z = .int .i64 n ∧ i = .int .i64 j) (fun _ i => len - (intOf i).toNat)
  case atStart => exact ⟨_, 0, Nat.zero_le _, rfl, rfl⟩
  case round =>
    obtain ⟨n, j, hj, rfl, rfl⟩ := hrel
    by_cases hlt : j < len
    · obtain ⟨b, off, rfl, hb, hc⟩ := ht (by omega)
      obtain ⟨c0, c1, _⟩ := hc j hlt
      clear hc
      go_wp2
      case roundEnd =>
        go_round
        case rel => exact ⟨_, j + 1, by omega, rfl, by go_num⟩
        case measure => simp [intOf]; omega
      all_goals
        go_ret
        exact ⟨⟨_, rfl⟩, rfl⟩
    · go_wp2
      go_ret
      exact ⟨⟨_, rfl⟩, rfl⟩

def LabB (e : Ending) : Prop := ∃ (n : Int) (x : Bool), e = .returned (.tuple #[.int .i64 n, .bool x])

set_option maxHeartbeats 1000000 in
theorem labelBytes_any (a : Option Addr) (len cap : Nat) (L : Nat → Lb) (t : Int) (w : World) (hl : len ≤ maxLen) (ht : Tab w a len L) :
    Calls Try.prog 7 #[.slice a len cap, .int .i64 t] w fun e w' => LabB e ∧ ∃ q, w' = w.drewN q := by
  unfold maxLen at hl
  go_enter Try.func7, Try.ntmps7
  go_wp2
  go_loopw [1, 6] (fun z i wr => ∃ (n : Int) (k : Nat) (q : Nat), k ≤ len ∧ z = .int .i64 n ∧ i = .int .i64 k ∧ wr = w.drewN q) (fun _ i _ => len - (intOf i).toNat)
  case atStart => exact ⟨_, 0, 0, Nat.zero_le _, rfl, rfl, rfl⟩
  case round =>
    obtain ⟨n, k, q, hk, rfl, rfl, rfl⟩ := hrel
    by_cases hlt : k < len
    · obtain ⟨b, off, rfl, hb, hc⟩ := ht (by omega)
      obtain ⟨c0, c1, _⟩ := hc k hlt
      clear hc
      have i0 : (0 : Int) ≤ (k : Int) := by omega
      have i1 : (k : Int) < (len : Int) := by omega
      by_cases g0 : (1048576 : Int) < ((L k).ky.size : Int)
      · go_wp2
        go_ret2
        exact ⟨⟨_, _, rfl⟩, q, rfl⟩
      · have d0 : decide ((1048576 : Int) < ((L k).ky.size : Int)) = false := by simpa using g0
        by_cases g1 : (1048576 : Int) < ((L k).vl.size : Int)
        · go_wp2
          go_ret2
          exact ⟨⟨_, _, rfl⟩, q, rfl⟩
        · have d1 : decide ((1048576 : Int) < ((L k).vl.size : Int)) = false := by simpa using g1
          go_wp2
          go_quiet (fail)
          go_wp2
          · go_ret2
            exact ⟨⟨_, _, rfl⟩, _, rfl⟩
          · go_roundw
            case rel => exact ⟨_, k + 1, _, by omega, rfl, by go_num, rfl⟩
            case measure => simp [intOf]; omega
    · go_wp2
      go_ret2
      exact ⟨⟨_, _, rfl⟩, _, rfl⟩

end Go.Proofs.Qxb6601297a
