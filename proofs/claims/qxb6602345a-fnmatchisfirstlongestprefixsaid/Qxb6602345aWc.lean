/-
  Seat b6602345a. 'zzRowsBytes': it reads lengths and returns a number; where that number is within the limit, there are at most 65536 rows.
-/
import Derived.Test.Qxb6602345aKit
import Derived.Deep.QuietTactic
import Derived.BigQuiet
namespace Go.Proofs.Qxb6602345a
open Go.RowKit

def RowsB (len : Nat) (lim : Int) (e : Ending) : Prop := ∃ n : Int, e = .returned (.int .i64 n) ∧ (n ≤ lim → len ≤ 65536)

set_option maxHeartbeats 1000000 in
theorem rowsBytes_any (a : Option Addr) (len cap : Nat) (R : Nat → Rw) (lim : Int) (w : World) (hl : len ≤ maxLen) (h0 : 0 ≤ lim) (h2 : lim ≤ 1048576) (ht : Tab w a len R) :
    Calls Try.prog 11 #[.slice a len cap, .int .i64 lim] w fun e w' => RowsB len lim e ∧ ∃ q, w' = w.drewN q := by
  unfold maxLen at hl
  by_cases h1 : (65536 : Int) < len
  · go_enter Try.func11, Try.ntmps11
    go_wp2
    go_ret
    exact ⟨⟨_, rfl, fun h => by omega⟩, 0, rfl⟩
  · have hd : decide ((65536 : Int) < len) = false := by simpa using h1
    by_cases h3 : lim < (len : Int) * 56
    · go_enter Try.func11, Try.ntmps11
      go_wp2
      go_ret
      exact ⟨⟨_, rfl, fun h => by omega⟩, 0, rfl⟩
    · have hd3 : decide (lim < (len : Int) * 56) = false := by simpa using h3
      go_enter Try.func11, Try.ntmps11
      go_wp2
      go_loopw [5, 6] (fun z i wr => ∃ (n : Int) (k : Nat) (q : Nat), k ≤ len ∧ z = .int .i64 n ∧ i = .int .i64 k ∧ wr = w.drewN q) (fun _ i _ => len - (intOf i).toNat)
      case atStart => exact ⟨_, 0, 0, Nat.zero_le _, rfl, rfl, rfl⟩
      case round =>
        obtain ⟨n, k, q, hk, rfl, rfl, rfl⟩ := hrel
        by_cases hlt : k < len
        · obtain ⟨b, off, rfl, hb, hc⟩ := ht (by omega)
          obtain ⟨c0, c1, c2, c3⟩ := hc k hlt
          clear hc
          have i0 : (0 : Int) ≤ (k : Int) := by omega
          have i1 : (k : Int) < (len : Int) := by omega
          by_cases g0 : lim < ((R k).nm.size : Int)
          · go_wp2
            go_ret
            exact ⟨⟨_, rfl, fun h => by omega⟩, q, rfl⟩
          · have d0 : decide (lim < ((R k).nm.size : Int)) = false := by simpa using g0
            by_cases g1 : lim < ((R k).px.size : Int)
            · go_wp2
              go_ret
              exact ⟨⟨_, rfl, fun h => by omega⟩, q, rfl⟩
            · have d1 : decide (lim < ((R k).px.size : Int)) = false := by simpa using g1
              by_cases g3 : lim < ((R k).cs.size : Int)
              · go_wp2
                go_ret
                exact ⟨⟨_, rfl, fun h => by omega⟩, q, rfl⟩
              · have d3 : decide (lim < ((R k).cs.size : Int)) = false := by simpa using g3
                go_wp2
                go_quiet (fail)
                go_wp2
                · go_ret
                  exact ⟨⟨_, rfl, fun h => by omega⟩, _, rfl⟩
                · go_roundw
                  case rel => exact ⟨_, k + 1, _, by omega, rfl, by go_num, rfl⟩
                  case measure => simp [intOf]; omega
        · go_wp2
          go_ret
          exact ⟨⟨_, rfl, fun h => by omega⟩, _, rfl⟩
end Go.Proofs.Qxb6602345a
