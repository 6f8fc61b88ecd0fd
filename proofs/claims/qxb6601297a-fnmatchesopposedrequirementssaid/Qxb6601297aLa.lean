/-
  Seat b6601297a. The law 'FnMatchesOpposedRequirements', walked out of its callees' contracts.
-/
import Derived.Test.Qxb6601297aWa
import Derived.Test.Qxb6601297aWb
import Derived.Test.Qxb6601297aWd
namespace Go.Proofs.Qxb6601297a
open Go.RowKit

set_option maxHeartbeats 2000000 in
theorem lawOpposed (key val : ByteArray) (a : Option Addr) (len cap : Nat) (L : Nat → Lb) (w : World) (hk : key.size ≤ maxLen) (hv : val.size ≤ maxLen) (hl : len ≤ maxLen) (hn : a = none → len = 0) (ht : Tab w a len L) :
    Calls Try.prog 4 #[.string key, .string val, .slice a len cap] w fun e w' => e = .returned (.bool true) ∧ Below w.heap.size w w' := by
  have hk' := hk
  have hv' := hv
  have hl' := hl
  unfold maxLen at hk' hv' hl'
  go_enter Try.func4, Try.ntmps4
  go_wp2_with fail
  refine (bytes_any key val a len cap L _ hl ht).mono ?_
  rintro e w' ⟨⟨x, rfl⟩, hw'⟩
  subst hw'
  cases x
  · go_wp2_with fail
    go_ret
    exact ⟨rfl, Below.refl _ _⟩
  by_cases h1 : (65536 : Int) < key.size
  · go_wp2_with fail
    go_ret
    exact ⟨rfl, Below.refl _ _⟩
  by_cases h2 : (65536 : Int) < val.size
  · have d1 : decide ((65536 : Int) < key.size) = false := by simpa using h1
    go_wp2_with fail
    go_ret
    exact ⟨rfl, Below.refl _ _⟩
  by_cases h3 : (4096 : Int) < len
  · have d1 : decide ((65536 : Int) < key.size) = false := by simpa using h1
    have d2 : decide ((65536 : Int) < val.size) = false := by simpa using h2
    go_wp2_with fail
    go_ret
    exact ⟨rfl, Below.refl _ _⟩
  have d1 : decide ((65536 : Int) < key.size) = false := by simpa using h1
  have d2 : decide ((65536 : Int) < val.size) = false := by simpa using h2
  have d3 : decide ((4096 : Int) < len) = false := by simpa using h3
  go_wp2_with fail
  refine (labelBytes_any a len cap L _ _ hl ht).mono ?_
  rintro e w1 ⟨⟨n, y, rfl⟩, q, rfl⟩
  cases y
  · go_wp2_with fail
    go_ret
    exact ⟨rfl, below_drewN (Below.refl _ _) _⟩
  go_wp2_with fail
  refine (labelMap_any a len cap L key _ (by omega) hn hk (ht.drewN q)).mono ?_
  rintro e w1 ⟨hb1, mv, v, has, rfl, hL⟩
  have hB1 : Below w'.heap.size w' w1 := (below_drewN (Below.refl _ _) q).trans hb1
  clear hb1
  obtain ⟨eq, heq⟩ : ∃ eq, (v.toList == val.toList) = eq := ⟨_, rfl⟩
  have HQ : Hid ((v.toList == val.toList) = eq) := heq
  clear heq
  go_wp2_with fail
  refine (single_any key val v has eq 0 mv _ (by omega) HQ.out hL).mono ?_
  rintro e w2 ⟨rfl, hb2⟩
  have hL2 := hL.later hb2 hb2.size
  have hB2 := hB1.trans (hb2.mono hB1.size)
  clear hL hb2 hB1
  go_wp2_with fail
  refine (single_any key val v has eq 1 mv _ (by omega) HQ.out hL2).mono ?_
  rintro e w3 ⟨rfl, hb3⟩
  have hL3 := hL2.later hb3 hb3.size
  have hB3 := hB2.trans (hb3.mono hB2.size)
  clear hL2 hb3 hB2
  go_wp2_with fail
  refine (single_any key val v has eq 2 mv _ (by omega) HQ.out hL3).mono ?_
  rintro e w4 ⟨rfl, hb4⟩
  have hL4 := hL3.later hb4 hb4.size
  have hB4 := hB3.trans (hb4.mono hB3.size)
  clear hL3 hb4 hB3
  go_wp2_with fail
  refine (single_any key val v has eq 3 mv _ (by omega) HQ.out hL4).mono ?_
  rintro e w5 ⟨rfl, hb5⟩
  have hB5 := hB4.trans (hb5.mono hB4.size)
  clear hL4 hb5 hB4 HQ
  cases has
  all_goals cases eq
  all_goals
    simp only [sat]
    go_wp2
    go_ret
    exact ⟨rfl, hB5⟩

end Go.Proofs.Qxb6601297a
