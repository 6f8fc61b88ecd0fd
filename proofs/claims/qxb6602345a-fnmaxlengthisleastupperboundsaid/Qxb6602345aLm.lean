/-
  Seat b6602345a. The law 'FnMaxLengthIsLeastUpperBound', walked out of its callees' contracts.
-/
import Derived.Test.Qxb6602345aWb
import Derived.Test.Qxb6602345aWc
import Derived.Test.Qxb6602345aWg
namespace Go.Proofs.Qxb6602345a
open Go.RowKit

/-- What the second loop's 'hit' says behind k rows. -/
def HitOk (R : Nat → Rw) (m : Int) (k : Nat) (x : Bool) : Prop := x = true ↔ (m = 0 ∨ ∃ j, j < k ∧ tokLen (R j) = m)

theorem HitOk.start (R : Nat → Rw) (m : Int) : HitOk R m 0 (m == 0) := by
  unfold HitOk
  rw [beq_iff_eq]
  exact ⟨.inl, fun h => h.elim id fun ⟨j, hj, _⟩ => absurd hj (by omega)⟩

theorem HitOk.yes {R : Nat → Rw} {m : Int} {k : Nat} (h : tokLen (R k) = m) : HitOk R m (k + 1) true := ⟨fun _ => .inr ⟨k, by omega, h⟩, fun _ => rfl⟩

theorem HitOk.no {R : Nat → Rw} {m : Int} {k : Nat} {x : Bool} (hx : HitOk R m k x) (h : tokLen (R k) ≠ m) : HitOk R m (k + 1) x := by
  constructor
  · intro e
    rcases hx.1 e with h0 | ⟨j, hj, hq⟩
    · exact .inl h0
    · exact .inr ⟨j, by omega, hq⟩
  · rintro (h0 | ⟨j, hj, hq⟩)
    · exact hx.2 (.inl h0)
    · by_cases ej : j = k
      · subst ej; exact absurd hq h
      · exact hx.2 (.inr ⟨j, by omega, hq⟩)

set_option maxHeartbeats 1000000 in
theorem lawMax (a : Option Addr) (len cap : Nat) (R : Nat → Rw) (w : World) (hl : len ≤ maxLen) (hn : a = none → len = 0) (ht : Tab w a len R) :
    Calls Try.prog 8 #[.slice a len cap] w fun e w' => e = .returned (.bool true) ∧ Below w.heap.size w w' := by
  have hl' := hl
  unfold maxLen at hl'
  go_enter Try.func8, Try.ntmps8
  go_wp2_with fail
  refine (bytesMax_any a len cap R _ hl ht).mono ?_
  rintro e w' ⟨⟨x, rfl⟩, rfl⟩
  cases x
  · go_wp2_with fail
    go_ret
    exact ⟨rfl, Below.refl _ _⟩
  · go_wp2_with fail
    refine (rowsBytes_any a len cap R _ _ hl (by omega) (by omega) ht).mono ?_
    rintro e w' ⟨⟨n, rfl, hn2⟩, q, rfl⟩
    by_cases h2 : (1048576 : Int) < n
    · go_wp2_with fail
      go_ret
      exact ⟨rfl, below_drewN (Below.refl _ _) _⟩
    · have hd2 : decide ((1048576 : Int) < n) = false := by simpa using h2
      have hlen : len ≤ 65536 := hn2 (by omega)
      clear hn2
      go_wp2_with fail
      go_loop [3] (fun i => ∃ k : Nat, k ≤ len ∧ i = .int .i64 k) (fun i => len - (intOf i).toNat)
      case atStart => exact ⟨0, Nat.zero_le _, rfl⟩
      case round =>
        obtain ⟨k, hk, rfl⟩ := hrel
        by_cases hlt : k < len
        · obtain ⟨b, off, rfl, hb, hc⟩ := ht (by omega)
          obtain ⟨c0, c1, c2, c3⟩ := hc k hlt
          clear hc
          by_cases g0 : (R k).rl < -1073741824
          · go_wp2
            go_ret
            exact ⟨rfl, below_drewN (Below.refl _ _) _⟩
          · have d0 : decide ((R k).rl < -1073741824) = false := by simpa using g0
            by_cases g1 : 1073741824 < (R k).rl
            · go_wp2
              go_ret
              exact ⟨rfl, below_drewN (Below.refl _ _) _⟩
            · have d1 : decide (1073741824 < (R k).rl) = false := by simpa using g1
              go_wp2
              go_round
              case rel => exact ⟨k + 1, by omega, by go_num⟩
              case measure => simp [intOf]; omega
        · go_wp2_with fail
          refine (zzTypes_any a len cap R _ hlen hn (ht.drewN q)).mono ?_
          rintro e w1 ⟨a1, rfl, ht1, hb1⟩
          have hB1 : Below w'.heap.size w' w1 := (below_drewN (Below.refl _ _) q).trans hb1
          clear hb1
          go_wp2_with fail
          refine (maxLength_any a1 len len R _ hlen ht1).mono ?_
          rintro e w2 ⟨rfl, hb2⟩
          have hB2 : Below w'.heap.size w' w2 := hB1.trans (hb2.mono hB1.size)
          clear hb2
          have hm0 := maxTo_nonneg R len
          obtain ⟨m, hm⟩ : ∃ m, m = maxTo R len := ⟨_, rfl⟩
          rw [← hm] at hm0 ⊢
          have HM : Hid (m = maxTo R len) := hm
          clear hm
          go_wp2_with fail
          go_loopw [5, 6] (fun t i wr => ∃ (k : Nat) (x : Bool), k ≤ len ∧ t = .bool x ∧ i = .int .i64 k ∧ HitOk R m k x ∧ Below w'.heap.size w' wr) (fun _ i _ => len - (intOf i).toNat)
          case atStart => exact ⟨0, _, Nat.zero_le _, rfl, rfl, HitOk.start _ _, hB2⟩
          case round =>
            obtain ⟨k, x, hk, rfl, rfl, hH, hB⟩ := hrel
            by_cases hlt : k < len
            · obtain ⟨b, off, rfl, hb, hc⟩ := ht.later hB (Nat.le_refl _) (by omega)
              obtain ⟨c0, c1, c2, c3⟩ := hc k hlt
              clear hc
              have hge : ¬ m < tokLen (R k) := by have := maxTo_ge R len k hlt; rw [HM.out]; omega
              by_cases he : tokLen (R k) = m
              · have hd : (tokLen (R k) == m) = true := by simpa using he
                have HE : Hid (tokLen (R k) = m) := he
                clear he
                go_wp2_with (go_at_call 24; refine (tokenLen_any (R k) _).mono ?_; rintro e w3 ⟨rfl, hb3⟩)
                go_roundw
                case rel => exact ⟨k + 1, true, by omega, rfl, by go_num, HitOk.yes HE, hB.trans (hb3.mono hB.size)⟩
                case measure => simp [intOf]; omega
              · have hd : (tokLen (R k) == m) = false := by simpa using he
                have HE : Hid (tokLen (R k) ≠ m) := he
                clear he
                go_wp2_with (go_at_call 24; refine (tokenLen_any (R k) _).mono ?_; rintro e w3 ⟨rfl, hb3⟩)
                go_roundw
                case rel => exact ⟨k + 1, x, by omega, rfl, by go_num, hH.no HE, hB.trans (hb3.mono hB.size)⟩
                case measure => simp [intOf]; omega
            · have hx : x = true := hH.2 (by rw [HM.out, show k = len from by omega]; exact maxTo_hit R len)
              subst hx
              go_wp2
              go_ret
              exact ⟨rfl, hB⟩

end Go.Proofs.Qxb6602345a
