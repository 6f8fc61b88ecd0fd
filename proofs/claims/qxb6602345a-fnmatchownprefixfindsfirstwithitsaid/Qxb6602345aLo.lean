/-
  Seat b6602345a. The law 'FnMatchOwnPrefixFindsFirstWithIt', walked out of its callees' contracts.
-/
import Derived.Test.Qxb6602345aWb
import Derived.Test.Qxb6602345aWc
import Derived.Test.Qxb6602345aWf
import Derived.Deep.RegionWith
import Derived.Deep.DrawnRows
namespace Go.Proofs.Qxb6602345a
open Go.RowKit

attribute [local go_sem ↓] Go.wp_at_zero Go.wp_at_succ

theorem preB_same {s p : ByteArray} (h : preB s p = true) (hs : s.size ≤ p.size) : p = s := by
  obtain ⟨t, ht⟩ := (preB_iff s p).1 h
  have hl := congrArg List.length ht
  rw [List.length_append, size_len, size_len] at hl
  have : t = [] := List.eq_nil_of_length_eq_zero (by omega)
  subst this
  rw [List.append_nil] at ht
  exact ByteArray.ext (Array.toList_inj.mp ht)

theorem Best.own {R : Nat → Rw} {p : ByteArray} {len i : Nat} {o : Option Nat} (h : Best R p len o) (hi : i < len) (he : (R i).px = p) :
    ∃ m, o = some m ∧ m < len ∧ (R m).px = p ∧ ∀ j, j < m → (R j).px ≠ p := by
  have hr : preB p (R i).px = true := by rw [he]; exact preB_refl p
  cases o with
  | none => rw [h i hi] at hr; cases hr
  | some m =>
    obtain ⟨h1, h2, h3, h4⟩ := h
    have hm : (R m).px = p := preB_same h2 (by have := h3 i hi hr; rw [he] at this; exact this)
    refine ⟨m, rfl, h1, hm, fun j hj e => ?_⟩
    have := h4 j hj (by rw [e]; exact preB_refl p)
    rw [e, hm] at this
    omega

set_option maxHeartbeats 1000000 in
theorem lawOwn (a : Option Addr) (len cap : Nat) (R : Nat → Rw) (i : Int) (w : World) (hl : len ≤ maxLen) (hn : a = none → len = 0) (ht : Tab w a len R) :
    Calls Try.prog 5 #[.slice a len cap, .int .i64 i] w fun e w' => e = .returned (.bool true) ∧ Below w.heap.size w w' := by
  have hl' := hl
  unfold maxLen at hl'
  go_enter Try.func5, Try.ntmps5
  go_wp2_with fail
  refine (bytesOwn_any a len cap R i _ hl ht).mono ?_
  rintro e w' ⟨⟨x, rfl⟩, rfl⟩
  cases x
  · go_wp2_with fail
    go_ret
    exact ⟨rfl, Below.refl _ _⟩
  · go_wp2_with fail
    refine (rowsBytes_any a len cap R _ _ hl (by omega) (by omega) ht).mono ?_
    rintro e w' ⟨⟨n, rfl, hn2⟩, q, rfl⟩
    by_cases h2 : (1048576 : Int) < n
    · go_wp2_with fail
      go_ret
      exact ⟨rfl, below_drewN (Below.refl _ _) _⟩
    · have hd2 : decide ((1048576 : Int) < n) = false := by simpa using h2
      have hlen : len ≤ 65536 := hn2 (by omega)
      clear hn2
      by_cases hi0 : i < 0
      · go_wp2_with fail
        go_ret
        exact ⟨rfl, below_drewN (Below.refl _ _) _⟩
      · have hdi : decide (i < 0) = false := by simpa using hi0
        obtain ⟨i, rfl⟩ := Int.eq_ofNat_of_zero_le (Int.not_lt.1 hi0)
        by_cases hi1 : (len : Int) ≤ (i : Int)
        · go_wp2_with fail
          go_ret
          exact ⟨rfl, below_drewN (Below.refl _ _) _⟩
        · have hdi1 : decide ((len : Int) ≤ (i : Int)) = false := by simpa using hi1
          have hi2 : i < len := by omega
          obtain ⟨b, off, rfl, hb, hc⟩ := ht (by omega)
          obtain ⟨c0, c1, c2, c3⟩ := hc i hi2
          clear hc
          go_wp2_with fail
          refine (zzTypes_any _ len cap R _ hlen hn (ht.drewN q)).mono ?_
          rintro e w1 ⟨a1, rfl, ht1, hb1⟩
          have hB1 : Below w'.heap.size w' w1 := (below_drewN (Below.refl _ _) q).trans hb1
          clear hb1 c0 c1 c2 c3
          go_wp2_with fail
          refine (match_any a1 len len R (R i).px _ hlen ht1).mono ?_
          rintro e w2 ⟨hb2, o, hO, rfl⟩
          have hB2 : Below w'.heap.size w' w2 := hB1.trans (hb2.mono hB1.size)
          clear hb2
          obtain ⟨m, rfl, hm1, hm2, hm3⟩ := hO.own hi2 rfl
          clear hO
          have HM : Hid ((R m).px = (R i).px ∧ ∀ j, j < m → (R j).px ≠ (R i).px) := ⟨hm2, hm3⟩
          clear hm2 hm3
          simp only [bestRw, Option.isSome_some]
          go_wp2_with fail
          go_loop [8] (fun t => ∃ k : Nat, k ≤ i + 1 ∧ t = .int .i64 k ∧ Hid (∀ j, j < k → (R j).px ≠ (R i).px)) (fun t => i + 1 - (intOf t).toNat)
          case atStart => exact ⟨0, Nat.zero_le _, rfl, fun j hj => absurd hj (by omega)⟩
          case round =>
            obtain ⟨k, hk, rfl, hN⟩ := hrel
            by_cases hki : k = i + 1
            · exact absurd rfl (hN.out i (by omega))
            · have hki2 : k ≤ i := by omega
              obtain ⟨b', off', hbo, hb2, hc⟩ := ht.later hB2 (Nat.le_refl _) (by omega)
              injection hbo with hbo
              injection hbo with e1 e2 _
              subst e1 e2
              obtain ⟨c0, c1, c2, c3⟩ := hc k (by omega)
              clear hc
              by_cases he : (R k).px = (R i).px
              · have hkm : k = m := by
                  rcases Nat.lt_trichotomy k m with h | h | h
                  · exact absurd he (HM.out.2 k h)
                  · exact h
                  · exact absurd HM.out.1 (hN.out m h)
                subst hkm
                have hd := str_yes he
                clear he HM hN ht ht1
                have i0 : (0 : Int) ≤ (k : Int) := by omega
                have i1 : (k : Int) < (len : Int) := by omega
                go_wp2_with fail
                go_region_with (go_at_call 16; refine (zzType_any (R k) _).mono ?_; rintro e w3 ⟨rfl, hb3⟩; have g0 := hb3.cell (p := ⟨w2.heap.size, 0, none⟩) (by simp); have g1 := hb3.cell (p := ⟨w2.heap.size, 1, none⟩) (by simp); have g2 := hb3.cell (p := ⟨w2.heap.size, 2, none⟩) (by simp); have g3 := hb3.cell (p := ⟨w2.heap.size, 3, none⟩) (by simp); simp [go_sem] at g0 g1 g2 g3)
                all_goals
                  go_wp2
                  go_ret
                  exact ⟨rfl, ((hB2.alloc hB2.size _).drew).trans (hb3.mono (by have := hB2.size; simp; omega))⟩
              · have hd := str_no he
                have HE : Hid ((R k).px ≠ (R i).px) := he
                clear he
                go_wp2
                go_round
                case rel => exact ⟨k + 1, by omega, by go_num, fun j hj => if e : j = k then e ▸ HE else hN j (by omega)⟩
                case measure => simp [intOf]; omega

end Go.Proofs.Qxb6602345a
