/-
  Seat b6602464a. 'hexQuad'.
-/
import Derived.Test.Qxb6602464aWa
namespace Go.Proofs.Qxb6602464a
open Go.RowKit

/-- What a walk is told of a slice of bytes. -/
def Row8 (w : World) (a : Option Addr) (len : Nat) (Z : Nat → Int) : Prop :=
  0 < len → ∃ b off, a = some ⟨b, off, none⟩ ∧ b < w.heap.size ∧ ∀ i, i < len → w.cell? ⟨b, off + i, none⟩ = some (.int .u8 (Z i)) ∧ 0 ≤ Z i ∧ Z i ≤ 255

/-- The number that the first k digits write. -/
def quadTo (Z : Nat → Int) : Nat → Int
  | 0 => 0
  | k + 1 => 16 * quadTo Z k + hx (Z k)

theorem quadTo_bd (Z : Nat → Int) (k : Nat) (h : ∀ j, j < k → 0 ≤ hx (Z j)) (hk : k < 4) : 0 ≤ quadTo Z k ∧ quadTo Z k ≤ 4095 := by
  have h0 := hx_lt (Z 0)
  have h1 := hx_lt (Z 1)
  have h2 := hx_lt (Z 2)
  match k, hk with
  | 0, _ => simp [quadTo]
  | 1, _ => have := h 0 (by omega); simp [quadTo]; omega
  | 2, _ => have := h 0 (by omega); have := h 1 (by omega); simp [quadTo]; omega
  | 3, _ => have := h 0 (by omega); have := h 1 (by omega); have := h 2 (by omega); simp [quadTo]; omega

theorem or16 (x d : Int) (h0 : 0 ≤ x) (h1 : x ≤ 4095) (h2 : 0 ≤ d) (h3 : d < 16) : bits .or .i32 (x * 16) d = 16 * x + d := by
  rw [bits_join .i32 31 (by decide) wraps_i32 4 (x * 16) d (by omega) (by omega) (by omega) h2 (by omega) (by omega)]
  omega

theorem hx_dig {c : Int} (h : 48 ≤ c ∧ c ≤ 57) : hx c = c - 48 := by unfold hx; rw [if_pos h]
theorem hx_let {c : Int} (h : 97 ≤ c ∧ c ≤ 102) : hx c = c - 97 + 10 := by unfold hx; rw [if_neg (by omega), if_pos h]; omega
theorem hx_cap {c : Int} (h : 65 ≤ c ∧ c ≤ 70) : hx c = c - 65 + 10 := by unfold hx; rw [if_neg (by omega), if_neg (by omega), if_pos h]; omega
theorem hx_out {c : Int} (h1 : ¬ (48 ≤ c ∧ c ≤ 57)) (h2 : ¬ (97 ≤ c ∧ c ≤ 102)) (h3 : ¬ (65 ≤ c ∧ c ≤ 70)) : hx c = -1 := by unfold hx; rw [if_neg h1, if_neg h2, if_neg h3]

theorem quad_step {Z : Nat → Int} {k : Nat} {x d : Int} (hX : x = quadTo Z k) (h0 : 0 ≤ x) (h1 : x ≤ 4095) (hd : hx (Z k) = d) (h2 : 0 ≤ d) : bits .or .i32 (x * 16) d = quadTo Z (k + 1) := by
  have := hx_lt (Z k)
  rw [or16 x d h0 h1 h2 (by omega), hX, ← hd]
  rfl

def QuadB (len : Nat) (Z : Nat → Int) (e : Ending) : Prop :=
  (4 ≤ len ∧ (∀ j, j < 4 → 0 ≤ hx (Z j)) ∧ e = .returned (.tuple #[.int .i32 (quadTo Z 4), .bool true])) ∨
  ((len < 4 ∨ ∃ j, j < 4 ∧ hx (Z j) = -1) ∧ e = .returned (.tuple #[.int .i32 0, .bool false]))

theorem int_eq {k : IntKind} {a b : Int} (h : a = b) : Value.int k a = .int k b := by rw [h]

set_option maxHeartbeats 1000000 in
theorem hexQuad_any (a : Option Addr) (len cap : Nat) (Z : Nat → Int) (w : World) (hl : len ≤ cap) (hm : cap ≤ maxLen) (hr : Row8 w a len Z) :
    Calls Try.prog 17 #[.slice a len cap] w fun e w' => QuadB len Z e ∧ w' = w := by
  unfold maxLen at hm
  by_cases h4 : (len : Int) < 4
  · go_enter Try.func17, Try.ntmps17
    go_wp2
    go_ret2
    exact ⟨.inr ⟨.inl (by omega), rfl⟩, rfl⟩
  · have hd4 : decide ((len : Int) < 4) = false := by simpa using h4
    obtain ⟨b, off, rfl, hb, hc⟩ := hr (by omega)
    have HC : Hid (∀ i, i < len → w.cell? ⟨b, off + i, none⟩ = some (.int .u8 (Z i)) ∧ 0 ≤ Z i ∧ Z i ≤ 255) := hc
    clear hc hr
    go_enter Try.func17, Try.ntmps17
    go_wp2
    go_loop [4, 14] (fun r i => ∃ k : Nat, k ≤ 4 ∧ r = .int .i32 (quadTo Z k) ∧ i = .int .i64 k ∧ Hid (∀ j, j < k → 0 ≤ hx (Z j))) (fun _ i => 4 - (intOf i).toNat)
    case atStart => exact ⟨0, Nat.zero_le _, rfl, rfl, fun j hj => absurd hj (by omega)⟩
    case round =>
      obtain ⟨k, hk, rfl, rfl, hN⟩ := hrel
      by_cases hlt : k < 4
      · obtain ⟨c0, z0, z1⟩ := HC.out k (by omega)
        have hq := quadTo_bd Z k hN.out hlt
        obtain ⟨x, hx'⟩ : ∃ x, x = quadTo Z k := ⟨_, rfl⟩
        rw [← hx'] at hq ⊢
        have HX : Hid (x = quadTo Z k) := hx'
        clear hx'
        obtain ⟨q0, q1⟩ := hq
        have hkc : (k : Int) < 4 := by omega
        by_cases g1 : 48 ≤ Z k ∧ Z k ≤ 57
        · have e1 := hx_dig g1
          have HE : Hid (hx (Z k) = Z k - 48) := e1
          clear e1
          obtain ⟨g1, g1'⟩ := g1
          go_wp2
          go_round
          case rel => exact ⟨k + 1, by omega, int_eq (quad_step HX q0 q1 HE (by omega)), by go_num, fun j hj => if e : j = k then by rw [e, HE.out]; omega else hN j (by omega)⟩
          case measure => simp [intOf]; omega
        · by_cases g2 : 97 ≤ Z k ∧ Z k ≤ 102
          · have e1 := hx_let g2
            have HE : Hid (hx (Z k) = Z k - 97 + 10) := e1
            clear e1 g1
            obtain ⟨g2, g2'⟩ := g2
            have d1 : decide (Z k ≤ 57) = false := by simp; omega
            go_wp2
            go_round
            case rel => exact ⟨k + 1, by omega, int_eq (quad_step HX q0 q1 HE (by omega)), by go_num, fun j hj => if e : j = k then by rw [e, HE.out]; omega else hN j (by omega)⟩
            case measure => simp [intOf]; omega
          · by_cases g3 : 65 ≤ Z k ∧ Z k ≤ 70
            · have e1 := hx_cap g3
              have HE : Hid (hx (Z k) = Z k - 65 + 10) := e1
              clear e1 g1 g2
              obtain ⟨g3, g3'⟩ := g3
              have d1 : decide (Z k ≤ 57) = false := by simp; omega
              have d2 : decide (97 ≤ Z k) = false := by simp; omega
              go_wp2
              go_round
              case rel => exact ⟨k + 1, by omega, int_eq (quad_step HX q0 q1 HE (by omega)), by go_num, fun j hj => if e : j = k then by rw [e, HE.out]; omega else hN j (by omega)⟩
              case measure => simp [intOf]; omega
            · have HE : Hid (hx (Z k) = -1) := hx_out g1 g2 g3
              have HG : Hid (¬ (48 ≤ Z k ∧ Z k ≤ 57) ∧ ¬ (97 ≤ Z k ∧ Z k ≤ 102) ∧ ¬ (65 ≤ Z k ∧ Z k ≤ 70)) := ⟨g1, g2, g3⟩
              clear g1 g2 g3
              go_wp2
              all_goals first
                | (go_ret2; exact ⟨.inr ⟨.inr ⟨k, hlt, HE⟩, rfl⟩, rfl⟩)
                | (have := HG.out; omega)
      · have e4 : k = 4 := by omega
        subst e4
        go_wp2
        go_ret2
        exact ⟨.inl ⟨by omega, hN, rfl⟩, rfl⟩

set_option maxHeartbeats 400000 in
theorem zzHexQuad_any (a : Option Addr) (len cap : Nat) (Z : Nat → Int) (w : World) (hl : len ≤ cap) (hm : cap ≤ maxLen) (hr : Row8 w a len Z) :
    Calls Try.prog 9 #[.slice a len cap] w fun e w' => QuadB len Z e ∧ w' = w := by
  go_enter Try.func9, Try.ntmps9
  go_wp2_with fail
  refine (hexQuad_any a len cap Z _ hl hm hr).mono ?_
  rintro e w' ⟨hq, rfl⟩
  rcases hq with ⟨h1, h2, rfl⟩ | ⟨h1, rfl⟩
  · have H : Hid (4 ≤ len ∧ ∀ j, j < 4 → 0 ≤ hx (Z j)) := ⟨h1, h2⟩
    clear h1 h2
    go_wp2
    go_ret2
    exact ⟨.inl ⟨H.out.1, H.out.2, rfl⟩, rfl⟩
  · have H : Hid (len < 4 ∨ ∃ j, j < 4 ∧ hx (Z j) = -1) := h1
    clear h1
    go_wp2
    go_ret2
    exact ⟨.inr ⟨H, rfl⟩, rfl⟩
end Go.Proofs.Qxb6602464a
