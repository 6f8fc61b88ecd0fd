/-
  Seat b6602345a. The law 'FnMatchIsFirstLongestPrefix', walked out of its callees' contracts.
-/
import Derived.Test.Qxb6602345aWb
import Derived.Test.Qxb6602345aWc
import Derived.Test.Qxb6602345aWf
import Derived.Deep.RegionWith
import Derived.Deep.DrawnRows
namespace Go.Proofs.Qxb6602345a
open Go.RowKit

attribute [local go_sem ↓] Go.wp_at_zero Go.wp_at_succ

/-- The greatest length of a matching opening among the first k rows; -1 where none matches. -/
def LenOk (R : Nat → Rw) (s : ByteArray) (k : Nat) (A : Int) : Prop :=
  (A = -1 ∧ ∀ j, j < k → preB s (R j).px = false) ∨ (∃ m, m < k ∧ preB s (R m).px = true ∧ A = (R m).px.size ∧ ∀ j, j < k → preB s (R j).px = true → ((R j).px.size : Int) ≤ A)

theorem LenOk.start (R : Nat → Rw) (s : ByteArray) : LenOk R s 0 (-1) := .inl ⟨rfl, fun j hj => absurd hj (by omega)⟩

theorem LenOk.miss {R : Nat → Rw} {s : ByteArray} {k : Nat} {A : Int} (h : LenOk R s k A) (hp : preB s (R k).px = false) : LenOk R s (k + 1) A := by
  rcases h with ⟨h1, h2⟩ | ⟨m, h1, h2, h3, h4⟩
  · exact .inl ⟨h1, fun j hj => if e : j = k then e ▸ hp else h2 j (by omega)⟩
  · refine .inr ⟨m, by omega, h2, h3, fun j hj hq => ?_⟩
    by_cases e : j = k
    · subst e; rw [hp] at hq; cases hq
    · exact h4 j (by omega) hq

theorem LenOk.hit {R : Nat → Rw} {s : ByteArray} {k : Nat} {A : Int} (h : LenOk R s k A) (hp : preB s (R k).px = true) (hl : A < (R k).px.size) : LenOk R s (k + 1) (R k).px.size := by
  refine .inr ⟨k, by omega, hp, rfl, fun j hj hq => ?_⟩
  by_cases e : j = k
  · subst e; exact Int.le_refl _
  · rcases h with ⟨h1, h2⟩ | ⟨m, h1, h2, h3, h4⟩
    · rw [h2 j (by omega)] at hq; cases hq
    · have := h4 j (by omega) hq; omega

theorem LenOk.same {R : Nat → Rw} {s : ByteArray} {k : Nat} {A : Int} (h : LenOk R s k A) (hl : ¬ A < (R k).px.size) : LenOk R s (k + 1) A := by
  rcases h with ⟨h1, h2⟩ | ⟨m, h1, h2, h3, h4⟩
  · omega
  · refine .inr ⟨m, by omega, h2, h3, fun j hj hq => ?_⟩
    by_cases e : j = k
    · subst e; omega
    · exact h4 j (by omega) hq

theorem LenOk.best {R : Nat → Rw} {s : ByteArray} {len : Nat} {A : Int} {o : Option Nat} (h : LenOk R s len A) (hO : Best R s len o) :
    (A = -1 ∧ o = none) ∨ ∃ m, o = some m ∧ m < len ∧ (((R m).px.size : Int) = A ∧ preB s (R m).px = true) ∧ ∀ j, j < m → ¬ (((R j).px.size : Int) = A ∧ preB s (R j).px = true) := by
  cases o with
  | none =>
    rcases h with ⟨h1, h2⟩ | ⟨m, h1, h2, h3, h4⟩
    · exact .inl ⟨h1, rfl⟩
    · rw [hO m h1] at h2; cases h2
  | some m =>
    obtain ⟨o1, o2, o3, o4⟩ := hO
    rcases h with ⟨h1, h2⟩ | ⟨m', h1, h2, h3, h4⟩
    · rw [h2 m o1] at o2; cases o2
    · have e1 := h4 m o1 o2
      have e2 := o3 m' h1 h2
      refine .inr ⟨m, rfl, o1, ⟨by omega, o2⟩, fun j hj ⟨q1, q2⟩ => ?_⟩
      have := o4 j hj q2
      omega

set_option maxHeartbeats 1000000 in
theorem lawMatch (a : Option Addr) (len cap : Nat) (R : Nat → Rw) (s : ByteArray) (w : World) (hl : len ≤ maxLen) (hn : a = none → len = 0) (ht : Tab w a len R) (hz : ∀ i, i < len → (R i).px.size ≤ maxLen) :
    Calls Try.prog 3 #[.slice a len cap, .string s] w fun e w' => e = .returned (.bool true) ∧ Below w.heap.size w w' := by
  have hl' := hl
  unfold maxLen at hl'
  by_cases h1 : (1048576 : Int) < s.size
  · go_enter Try.func3, Try.ntmps3
    go_wp2_with fail
    refine (bytesMatch_any a len cap R s _ hl ht).mono ?_
    rintro e w' ⟨⟨x, rfl⟩, rfl⟩
    cases x
    · go_wp2_with fail
      go_ret
      exact ⟨rfl, Below.refl _ _⟩
    · go_wp2_with fail
      go_ret
      exact ⟨rfl, Below.refl _ _⟩
  · have hd : decide ((1048576 : Int) < s.size) = false := by simpa using h1
    go_enter Try.func3, Try.ntmps3
    go_wp2_with fail
    refine (bytesMatch_any a len cap R s _ hl ht).mono ?_
    rintro e w' ⟨⟨x, rfl⟩, rfl⟩
    cases x
    · go_wp2_with fail
      go_ret
      exact ⟨rfl, Below.refl _ _⟩
    · go_wp2_with fail
      refine (rowsBytes_any a len cap R _ _ hl (by omega) (by omega) ht).mono ?_
      rintro e w' ⟨⟨n, rfl, hn2⟩, q, rfl⟩
      by_cases h2 : (1048576 : Int) - s.size < n
      · go_wp2_with fail
        go_ret
        exact ⟨rfl, below_drewN (Below.refl _ _) _⟩
      · have hd2 : decide ((1048576 : Int) - s.size < n) = false := by simpa using h2
        have hlen : len ≤ 65536 := hn2 (by omega)
        clear hn2
        go_wp2_with fail
        go_loopw [5, 6] (fun t i wr => ∃ (k : Nat) (A : Int) (q : Nat), k ≤ len ∧ t = .int .i64 A ∧ i = .int .i64 k ∧ LenOk R s k A ∧ wr = w'.drewN q) (fun _ i _ => len - (intOf i).toNat)
        case atStart => exact ⟨0, -1, q, Nat.zero_le _, rfl, rfl, LenOk.start _ _, rfl⟩
        case round =>
          clear q
          obtain ⟨k, A, q, hk, rfl, rfl, hA, rfl⟩ := hrel
          by_cases hlt : k < len
          · have hzk := hz k hlt
            obtain ⟨b, off, rfl, hb, hc⟩ := ht (by omega)
            obtain ⟨c0, c1, c2, c3⟩ := hc k hlt
            clear hc
            cases hp : preB s (R k).px with
            | false =>
              go_wp2_with (go_at_call 12; refine (zzHasPrefix_any s (R k).px _ hzk).mono ?_; rintro e w1 ⟨rfl, q1, rfl⟩)
              go_roundw
              case rel => exact ⟨k + 1, A, q + q1, by omega, rfl, by go_num, hA.miss hp, rfl⟩
              case measure => simp [intOf]; omega
            | true =>
              by_cases hq : A < ((R k).px.size : Int)
              · go_wp2_with (go_at_call 12; refine (zzHasPrefix_any s (R k).px _ hzk).mono ?_; rintro e w1 ⟨rfl, q1, rfl⟩)
                go_roundw
                case rel => exact ⟨k + 1, _, q + q1, by omega, rfl, by go_num, hA.hit hp hq, rfl⟩
                case measure => simp [intOf]; omega
              · have hdq : decide (A < ((R k).px.size : Int)) = false := by simpa using hq
                go_wp2_with (go_at_call 12; refine (zzHasPrefix_any s (R k).px _ hzk).mono ?_; rintro e w1 ⟨rfl, q1, rfl⟩)
                go_roundw
                case rel => exact ⟨k + 1, A, q + q1, by omega, rfl, by go_num, hA.same (by omega), rfl⟩
                case measure => simp [intOf]; omega
          · have hkl : k = len := by omega
            subst hkl
            go_wp2_with fail
            refine (zzTypes_any a k cap R _ hlen hn (ht.drewN q)).mono ?_
            rintro e w1 ⟨a1, rfl, ht1, hb1⟩
            have hB1 : Below w'.heap.size w' w1 := (below_drewN (Below.refl _ _) q).trans hb1
            clear hb1
            go_wp2_with fail
            refine (match_any a1 k k R s _ hlen ht1).mono ?_
            rintro e w2 ⟨hb2, o, hO, rfl⟩
            have hB2 : Below w'.heap.size w' w2 := hB1.trans (hb2.mono hB1.size)
            clear hb2
            rcases hA.best hO with ⟨rfl, rfl⟩ | ⟨m, rfl, hm1, hm2, hm3⟩
            · clear hO hA
              simp only [bestRw, Option.isSome_none, zeroRw, Rw.val]
              go_wp2_with fail
              refine (zzIsZero_zero _).mono ?_
              rintro e w3 ⟨rfl, hb3⟩
              go_wp2_with fail
              go_ret
              exact ⟨rfl, (hB2.alloc hB2.size _).trans (hb3.mono (by have := hB2.size; simp; omega))⟩
            · have hA0 : ¬ A < 0 := by have := hm2.1; omega
              have HM : Hid ((((R m).px.size : Int) = A ∧ preB s (R m).px = true) ∧ ∀ j, j < m → ¬ (((R j).px.size : Int) = A ∧ preB s (R j).px = true)) := ⟨hm2, hm3⟩
              clear hm2 hm3 hO hA
              simp only [bestRw, Option.isSome_some]
              go_wp2_with fail
              go_loopw [9] (fun t wr => ∃ (j qq : Nat), j ≤ m ∧ t = .int .i64 j ∧ wr = (w2.alloc (.cells #[.string (R m).nm, .string (R m).px, .int .i64 (R m).rl, .string (R m).cs] 29)).drewN qq) (fun t _ => k - (intOf t).toNat)
              case atStart => exact ⟨0, 0, Nat.zero_le _, rfl, rfl⟩
              case round =>
                obtain ⟨j, qq, hj, rfl, rfl⟩ := hrel
                have hjk : j < k := by omega
                have hzj := hz j hjk
                obtain ⟨b, off, rfl, hb, hc⟩ := ht.later hB2 (Nat.le_refl _) (by omega)
                obtain ⟨c0, c1, c2, c3⟩ := hc j hjk
                clear hc
                by_cases hs : ((R j).px.size : Int) = A
                · have hds : (((R j).px.size : Int) == A) = true := by simpa using hs
                  cases hp : preB s (R j).px with
                  | false =>
                    have hjm : j ≠ m := fun e => by subst e; have := HM.out.1.2; rw [hp] at this; cases this
                    clear hs
                    go_wp2_with (go_at_call 12; refine (zzHasPrefix_any s (R j).px _ hzj).mono ?_; rintro e w4 ⟨rfl, q1, rfl⟩)
                    go_roundw
                    case rel => exact ⟨j + 1, qq + q1, by omega, by go_num, rfl⟩
                    case measure => simp [intOf]; omega
                  | true =>
                    have hjm : j = m := by
                      by_cases e : j = m
                      · exact e
                      · exact absurd ⟨hs, hp⟩ (HM.out.2 j (by omega))
                    subst hjm
                    clear hs HM ht ht1
                    have i0 : (0 : Int) ≤ (j : Int) := by omega
                    have i1 : (j : Int) < (k : Int) := by omega
                    go_wp2_with (go_at_call 12; refine (zzHasPrefix_any s (R j).px _ hzj).mono ?_; rintro e w4 ⟨rfl, q1, rfl⟩)
                    go_region_with (go_at_call 16; refine (zzType_any (R j) _).mono ?_; rintro e w3 ⟨rfl, hb3⟩; have g0 := hb3.cell (p := ⟨w2.heap.size, 0, none⟩) (by simp); have g1 := hb3.cell (p := ⟨w2.heap.size, 1, none⟩) (by simp); have g2 := hb3.cell (p := ⟨w2.heap.size, 2, none⟩) (by simp); have g3 := hb3.cell (p := ⟨w2.heap.size, 3, none⟩) (by simp); simp [go_sem] at g0 g1 g2 g3)
                    all_goals
                      go_wp2
                      go_ret
                      refine ⟨rfl, Below.trans ?_ (hb3.mono ?_)⟩
                      · have hBa := hB2.alloc hB2.size (.cells #[.string (R j).nm, .string (R j).px, .int .i64 (R j).rl, .string (R j).cs] 29)
                        exact ⟨hBa.os, hBa.tape, hBa.output, hBa.size, hBa.block⟩
                      · have := hB2.size
                        simp
                        omega
                · have hds : (((R j).px.size : Int) == A) = false := by simpa using hs
                  have hjm : j ≠ m := fun e => by subst e; exact hs HM.out.1.1
                  clear hs
                  go_wp2
                  go_roundw
                  case rel => exact ⟨j + 1, qq, by omega, by go_num, rfl⟩
                  case measure => simp [intOf]; omega

end Go.Proofs.Qxb6602345a
