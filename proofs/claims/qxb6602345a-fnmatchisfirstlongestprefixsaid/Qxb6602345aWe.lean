/-
  Seat b6602345a. 'zzHasPrefix', 'strings.HasPrefix': does p start s?
-/
import Derived.Test.Qxb6602345aKit
import Derived.Deep.QuietTactic
import Derived.BigQuiet
import Derived.Lib.Strings
namespace Go.Proofs.Qxb6602345a
open Go.RowKit

/-- p starts s. -/
def preB (s p : ByteArray) : Bool := p.data.toList.isPrefixOf s.data.toList

theorem preB_iff (s p : ByteArray) : preB s p = true ↔ ∃ t, p.data.toList ++ t = s.data.toList := by
  unfold preB
  rw [List.isPrefixOf_iff_prefix]
  rfl

theorem size_len (s : ByteArray) : s.data.toList.length = s.size := by simp

theorem preB_size {s p : ByteArray} (h : preB s p = true) : p.size ≤ s.size := by
  obtain ⟨t, ht⟩ := (preB_iff s p).1 h
  have := congrArg List.length ht
  rw [List.length_append, size_len, size_len] at this
  omega

theorem preB_refl (s : ByteArray) : preB s s = true := (preB_iff s s).2 ⟨[], by simp⟩

theorem preB_cut (s p : ByteArray) : ((s.extract 0 p.size).toList == p.toList) = preB s p := by
  rw [Lib.extract_toList, ByteArray.toList_eq, Bool.eq_iff_iff, beq_iff_eq, preB_iff, ← size_len p, List.drop_zero, Nat.sub_zero]
  constructor
  · intro h
    refine ⟨s.data.toList.drop p.data.toList.length, ?_⟩
    have := List.take_append_drop p.data.toList.length s.data.toList
    rwa [h] at this
  · rintro ⟨t, ht⟩
    rw [← ht]
    simp

theorem preB_long {s p : ByteArray} (h : s.size < p.size) : preB s p = false := by
  rw [Bool.eq_false_iff]
  intro e
  have := preB_size e
  omega

set_option maxHeartbeats 400000 in
theorem hasPrefix28 (s p : ByteArray) (w : World) :
    Calls Try.prog 28 #[.string s, .string p] w fun e w' => e = .returned (.bool (preB s p)) ∧ w' = w := by
  by_cases h : (p.size : Int) ≤ s.size
  · rw [← preB_cut]
    go_enter Try.func28, Try.ntmps28
    go_wp2
    go_ret
    exact ⟨rfl, rfl⟩
  · rw [preB_long (by omega)]
    go_enter Try.func28, Try.ntmps28
    go_wp2
    go_ret
    exact ⟨rfl, rfl⟩

set_option maxHeartbeats 400000 in
theorem hasPrefix_any (s p : ByteArray) (w : World) :
    Calls Try.prog 26 #[.string s, .string p] w fun e w' => e = .returned (.bool (preB s p)) ∧ w' = w := by
  go_enter Try.func26, Try.ntmps26
  go_wp2_with (go_at_call 28; refine (hasPrefix28 s p _).mono ?_; rintro e w' ⟨rfl, rfl⟩)
  go_ret
  exact ⟨rfl, rfl⟩

/-- The first k bytes agree. -/
def agree (s p : ByteArray) (k : Nat) : Prop := p.data.toList.take k = s.data.toList.take k

theorem take_snoc (s : ByteArray) (k : Nat) (h : k < s.size) : s.data.toList.take (k + 1) = s.data.toList.take k ++ [s[k]] := by
  rw [List.take_succ_eq_append_getElem (by simpa using h)]; rfl

theorem agree_step {s p : ByteArray} {k : Nat} (hs : k < s.size) (hp : k < p.size) (hA : agree s p k) (h : ((s[k].toNat : Int) != (p[k].toNat : Int)) = false) : agree s p (k + 1) := by
  unfold agree at *
  have e : s[k] = p[k] := by
    simp at h
    exact UInt8.toNat_inj.1 (by omega)
  rw [take_snoc s k hs, take_snoc p k hp, hA, e]

theorem agree_stop {s p : ByteArray} {k : Nat} (hs : k < s.size) (hp : k < p.size) (h : ((s[k].toNat : Int) != (p[k].toNat : Int)) = true) : preB s p = false := by
  rw [Bool.eq_false_iff]
  intro e
  obtain ⟨t, ht⟩ := (preB_iff s p).1 e
  have e2 : s.data.toList[k]? = p.data.toList[k]? := by
    rw [← ht, List.getElem?_append_left (by rw [size_len]; exact hp)]
  rw [List.getElem?_eq_getElem (by rw [size_len]; exact hs), List.getElem?_eq_getElem (by rw [size_len]; exact hp)] at e2
  have e3 : s[k] = p[k] := by injection e2
  simp [e3] at h

theorem agree_end {s p : ByteArray} {k : Nat} (hk : p.size ≤ k) (hA : agree s p k) : preB s p = true := by
  unfold agree at hA
  rw [List.take_of_length_le (by rw [size_len]; exact hk)] at hA
  exact (preB_iff s p).2 ⟨s.data.toList.drop k, by rw [hA]; exact List.take_append_drop _ _⟩

set_option maxHeartbeats 400000 in
theorem zzHasPrefix_any (s p : ByteArray) (w : World) (hp : p.size ≤ maxLen) :
    Calls Try.prog 12 #[.string s, .string p] w fun e w' => e = .returned (.bool (preB s p)) ∧ ∃ q, w' = w.drewN q := by
  unfold maxLen at hp
  by_cases h : (s.size : Int) < p.size
  · rw [preB_long (by omega)]
    go_enter Try.func12, Try.ntmps12
    go_wp2
    go_ret
    exact ⟨rfl, 0, rfl⟩
  · have hd : decide ((s.size : Int) < p.size) = false := by simpa using h
    go_enter Try.func12, Try.ntmps12
    go_wp2
    go_loopw [5] (fun i wr => ∃ (k q : Nat), k ≤ p.size ∧ i = .int .i64 k ∧ wr = w.drewN q ∧ agree s p k) (fun i _ => p.size - (intOf i).toNat)
    case atStart => exact ⟨0, 0, Nat.zero_le _, rfl, rfl, by simp [agree]⟩
    case round =>
      obtain ⟨k, q, hk, rfl, rfl, hA⟩ := hrel
      by_cases hlt : k < p.size
      · have i1 : (k : Int) < (p.size : Int) := by omega
        have i2 : (k : Int) < (s.size : Int) := by omega
        go_wp2
        go_quiet (fail)
        go_wp2
        · have hst : preB s p = false := agree_stop (by omega) hlt (by assumption)
          go_ret
          exact ⟨by rw [hst]; rfl, _, World.drewN_drewN _ _ _⟩
        · go_roundw
          case rel => exact ⟨k + 1, _, by omega, by go_num, rfl, agree_step (by omega) hlt hA (by assumption)⟩
          case measure => simp [intOf]; omega
      · go_wp2
        go_ret
        exact ⟨by rw [agree_end (by omega) hA]; rfl, _, rfl⟩

end Go.Proofs.Qxb6602345a
