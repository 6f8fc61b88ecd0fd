/-
  Seat b6602345a. The law 'FnNamedIsFirstOfThatName', walked out of its callees' contracts.
-/
import Derived.Test.Qxb6602345aWb
import Derived.Test.Qxb6602345aWc
import Derived.Test.Qxb6602345aWd
import Derived.Deep.RegionWith
import Derived.Deep.DrawnRows
namespace Go.Proofs.Qxb6602345a
open Go.RowKit

attribute [local go_sem ↓] Go.wp_at_zero Go.wp_at_succ

/-- What the scan from the back holds when the rows from k on have been looked at. -/
def AtOk (len k : Nat) (R : Nat → Rw) (s : ByteArray) (A : Int) : Prop :=
  (A = -1 ∧ ∀ j, k ≤ j → j < len → (R j).nm ≠ s) ∨ (∃ m : Nat, A = m ∧ k ≤ m ∧ m < len ∧ (R m).nm = s ∧ ∀ j, k ≤ j → j < m → (R j).nm ≠ s)

theorem AtOk.start (len : Nat) (R : Nat → Rw) (s : ByteArray) : AtOk len len R s (-1) := .inl ⟨rfl, fun j h1 h2 => absurd h2 (by omega)⟩
theorem AtOk.hit {len k : Nat} {R : Nat → Rw} {s : ByteArray} (hk : k < len) (he : (R k).nm = s) : AtOk len k R s (k : Int) :=
  .inr ⟨k, rfl, Nat.le_refl _, hk, he, fun j h1 h2 => absurd h2 (by omega)⟩
theorem AtOk.miss {len k : Nat} {R : Nat → Rw} {s : ByteArray} {A : Int} (h : AtOk len (k + 1) R s A) (he : (R k).nm ≠ s) : AtOk len k R s A := by
  rcases h with ⟨h1, h2⟩ | ⟨m, h1, h2, h3, h4, h5⟩
  · exact .inl ⟨h1, fun j hj hl => if e : j = k then e ▸ he else h2 j (by omega) hl⟩
  · exact .inr ⟨m, h1, by omega, h3, h4, fun j hj hl => if e : j = k then e ▸ he else h5 j (by omega) hl⟩

set_option maxHeartbeats 1000000 in
theorem lawNamed (a : Option Addr) (len cap : Nat) (R : Nat → Rw) (s : ByteArray) (w : World) (hl : len ≤ maxLen) (hn : a = none → len = 0) (ht : Tab w a len R) :
    Calls Try.prog 6 #[.slice a len cap, .string s] w fun e w' => e = .returned (.bool true) ∧ Below w.heap.size w w' := by
  have hl' := hl
  unfold maxLen at hl'
  by_cases h1 : (1048576 : Int) < s.size
  · go_enter Try.func6, Try.ntmps6
    go_wp2_with fail
    refine (bytesNamed_any a len cap R s _ hl ht).mono ?_
    rintro e w' ⟨⟨x, rfl⟩, rfl⟩
    cases x
    · go_wp2_with fail
      go_ret
      exact ⟨rfl, Below.refl _ _⟩
    · go_wp2_with fail
      go_ret
      exact ⟨rfl, Below.refl _ _⟩
  · have hd : decide ((1048576 : Int) < s.size) = false := by simpa using h1
    go_enter Try.func6, Try.ntmps6
    go_wp2_with fail
    refine (bytesNamed_any a len cap R s _ hl ht).mono ?_
    rintro e w' ⟨⟨x, rfl⟩, rfl⟩
    cases x
    · go_wp2_with fail
      go_ret
      exact ⟨rfl, Below.refl _ _⟩
    · go_wp2_with fail
      refine (rowsBytes_any a len cap R _ _ hl (by omega) (by omega) ht).mono ?_
      rintro e w' ⟨⟨n, rfl, hn2⟩, q, rfl⟩
      by_cases h2 : (1048576 : Int) - s.size < n
      · go_wp2_with fail
        go_ret
        exact ⟨rfl, below_drewN (Below.refl _ _) _⟩
      · have hd2 : decide ((1048576 : Int) - s.size < n) = false := by simpa using h2
        have hlen : len ≤ 65536 := hn2 (by omega)
        clear hn2
        go_wp2_with fail
        go_loop [5, 6] (fun t i => ∃ (k : Nat) (A : Int), k ≤ len ∧ i = .int .i64 ((k : Int) - 1) ∧ t = .int .i64 A ∧ AtOk len k R s A) (fun _ i => (intOf i + 1).toNat)
        case atStart => exact ⟨len, -1, Nat.le_refl _, rfl, rfl, AtOk.start _ _ _⟩
        case round =>
          obtain ⟨k, A, hk, rfl, rfl, hA⟩ := hrel
          cases k with
          | succ k =>
            obtain ⟨b, off, rfl, hb, hc⟩ := ht (by omega)
            obtain ⟨c0, c1, c2, c3⟩ := hc k (by omega)
            clear hc
            have ek : (((k + 1 : Nat) : Int) - 1) = (k : Int) := by omega
            rw [ek]
            clear ek
            by_cases he : (R k).nm = s
            · have hd := str_yes he
              have HE : Hid ((R k).nm = s) := he
              clear he
              go_wp2
              go_round
              case rel => exact ⟨k, k, by omega, rfl, rfl, AtOk.hit (by omega) HE⟩
              case measure => simp [intOf]
            · have hd := str_no he
              have HE : Hid ((R k).nm ≠ s) := he
              clear he
              go_wp2
              go_round
              case rel => exact ⟨k, A, by omega, rfl, rfl, hA.miss HE⟩
              case measure => simp [intOf]
          | zero =>
            go_wp2_with fail
            refine (zzTypes_any a len cap R _ hlen hn (ht.drewN q)).mono ?_
            rintro e w1 ⟨a1, rfl, ht1, hb1⟩
            have hB1 : Below w'.heap.size w' w1 := (below_drewN (Below.refl _ _) q).trans hb1
            clear hb1
            go_wp2_with fail
            refine (named_any a1 len len R s _ hlen ht1).mono ?_
            rintro e w2 ⟨hb2, hcase⟩
            have hB2 : Below w'.heap.size w' w2 := hB1.trans (hb2.mono hB1.size)
            clear hb2
            rcases hA with ⟨rfl, hnone⟩ | ⟨m, rfl, hm0, hm1, hm2, hm3⟩
            · rcases hcase with ⟨i, hi, he, _, _⟩ | ⟨_, rfl⟩
              · exact absurd he (hnone i (by omega) hi)
              · clear hnone
                go_wp2_with fail
                refine (zzIsZero_zero _).mono ?_
                rintro e w3 ⟨rfl, hb3⟩
                go_wp2_with fail
                go_ret
                exact ⟨rfl, (hB2.alloc hB2.size _).trans (hb3.mono (by have := hB2.size; simp; omega))⟩
            · rcases hcase with ⟨i, hi, he, hj, rfl⟩ | ⟨hno, _⟩
              · have him : i = m := by
                  rcases Nat.lt_trichotomy i m with h | h | h
                  · exact absurd he (hm3 i (by omega) h)
                  · exact h
                  · exact absurd hm2 (hj m h)
                subst him
                clear hj he hm2 hm3 hm0
                obtain ⟨b, off, rfl, hb, hc⟩ := ht.later hB2 (Nat.le_refl _) (by omega)
                obtain ⟨c0, c1, c2, c3⟩ := hc i hi
                clear hc ht ht1
                have i0 : (0 : Int) ≤ (i : Int) := by omega
                have i1 : (i : Int) < (len : Int) := by omega
                go_wp2_with fail
                go_region_with (go_at_call 16; refine (zzType_any (R i) _).mono ?_; rintro e w3 ⟨rfl, hb3⟩; have g0 := hb3.cell (p := ⟨w2.heap.size, 0, none⟩) (by simp); have g1 := hb3.cell (p := ⟨w2.heap.size, 1, none⟩) (by simp); have g2 := hb3.cell (p := ⟨w2.heap.size, 2, none⟩) (by simp); have g3 := hb3.cell (p := ⟨w2.heap.size, 3, none⟩) (by simp); simp [go_sem] at g0 g1 g2 g3)
                all_goals
                  go_wp2
                  go_ret
                  exact ⟨rfl, ((hB2.alloc hB2.size _).drew).trans (hb3.mono (by have := hB2.size; simp; omega))⟩
              · exact absurd hm2 (hno m hm1)
end Go.Proofs.Qxb6602345a
