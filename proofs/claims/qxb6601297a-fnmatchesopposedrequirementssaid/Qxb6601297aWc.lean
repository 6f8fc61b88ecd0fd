/-
  Seat b6601297a. '(selector).matches' at a selector of one requirement.
-/
import Derived.Test.Qxb6601297aKit
namespace Go.Proofs.Qxb6601297a
open Go.RowKit

/-- Does one requirement hold of a map that answers v, has at its key? -/
def sat (op : Int) (has eq : Bool) : Bool :=
  if op = 0 then has else if op = 1 then !has else if op = 2 then has && eq else !(has && eq)

set_option maxHeartbeats 1000000 in
theorem matches0ff (g : Nat) (key val v : ByteArray) (mv : Value) (w : World) (_heq : (v.toList == val.toList) = false)
    (c0 : w.cell? ⟨g, 0, none⟩ = some (.string key)) (c1 : w.cell? ⟨g, 1, none⟩ = some (.string val)) (c2 : w.cell? ⟨g, 2, none⟩ = some (.int .i64 0)) (hL : Looks w w.heap.size mv key v false) :
    Calls Try.prog 14 #[.slice (some ⟨g, 0, none⟩) 1 1, mv] w fun e w' => e = .returned (.bool false) ∧ Below w.heap.size w w' := by
  have hg : g < w.heap.size := block_lt_of_cell c0
  go_enter Try.func14, Try.ntmps14
  go_wp2
  go_loopw [11] (fun i wr => ∃ k : Nat, k ≤ 0 ∧ i = .int .i64 k ∧ Below w.heap.size w wr) (fun i _ => 1 - (intOf i).toNat)
  case atStart => exact ⟨0, Nat.zero_le _, rfl, Below.refl _ _⟩
  case round =>
    obtain ⟨k, hk, rfl, hB⟩ := hrel
    have d0 := (hB.cell (p := ⟨g, 0, none⟩) hg).trans c0
    have d1 := (hB.cell (p := ⟨g, 1, none⟩) hg).trans c1
    have d2 := (hB.cell (p := ⟨g, 2, none⟩) hg).trans c2
    have hlk := fun x y z => hL (wr.alloc (.cells #[x, y, z] 45)) (hB.alloc hB.size _)
    obtain rfl : k = 0 := by omega
    go_wp2
    go_ret
    exact ⟨rfl, hB.alloc hB.size _⟩

set_option maxHeartbeats 1000000 in
theorem matches0ft (g : Nat) (key val v : ByteArray) (mv : Value) (w : World) (_heq : (v.toList == val.toList) = true)
    (c0 : w.cell? ⟨g, 0, none⟩ = some (.string key)) (c1 : w.cell? ⟨g, 1, none⟩ = some (.string val)) (c2 : w.cell? ⟨g, 2, none⟩ = some (.int .i64 0)) (hL : Looks w w.heap.size mv key v false) :
    Calls Try.prog 14 #[.slice (some ⟨g, 0, none⟩) 1 1, mv] w fun e w' => e = .returned (.bool false) ∧ Below w.heap.size w w' := by
  have hg : g < w.heap.size := block_lt_of_cell c0
  go_enter Try.func14, Try.ntmps14
  go_wp2
  go_loopw [11] (fun i wr => ∃ k : Nat, k ≤ 0 ∧ i = .int .i64 k ∧ Below w.heap.size w wr) (fun i _ => 1 - (intOf i).toNat)
  case atStart => exact ⟨0, Nat.zero_le _, rfl, Below.refl _ _⟩
  case round =>
    obtain ⟨k, hk, rfl, hB⟩ := hrel
    have d0 := (hB.cell (p := ⟨g, 0, none⟩) hg).trans c0
    have d1 := (hB.cell (p := ⟨g, 1, none⟩) hg).trans c1
    have d2 := (hB.cell (p := ⟨g, 2, none⟩) hg).trans c2
    have hlk := fun x y z => hL (wr.alloc (.cells #[x, y, z] 45)) (hB.alloc hB.size _)
    obtain rfl : k = 0 := by omega
    go_wp2
    go_ret
    exact ⟨rfl, hB.alloc hB.size _⟩

set_option maxHeartbeats 1000000 in
theorem matches0tf (g : Nat) (key val v : ByteArray) (mv : Value) (w : World) (_heq : (v.toList == val.toList) = false)
    (c0 : w.cell? ⟨g, 0, none⟩ = some (.string key)) (c1 : w.cell? ⟨g, 1, none⟩ = some (.string val)) (c2 : w.cell? ⟨g, 2, none⟩ = some (.int .i64 0)) (hL : Looks w w.heap.size mv key v true) :
    Calls Try.prog 14 #[.slice (some ⟨g, 0, none⟩) 1 1, mv] w fun e w' => e = .returned (.bool true) ∧ Below w.heap.size w w' := by
  have hg : g < w.heap.size := block_lt_of_cell c0
  go_enter Try.func14, Try.ntmps14
  go_wp2
  go_loopw [11] (fun i wr => ∃ k : Nat, k ≤ 1 ∧ i = .int .i64 k ∧ Below w.heap.size w wr) (fun i _ => 1 - (intOf i).toNat)
  case atStart => exact ⟨0, Nat.zero_le _, rfl, Below.refl _ _⟩
  case round =>
    obtain ⟨k, hk, rfl, hB⟩ := hrel
    have d0 := (hB.cell (p := ⟨g, 0, none⟩) hg).trans c0
    have d1 := (hB.cell (p := ⟨g, 1, none⟩) hg).trans c1
    have d2 := (hB.cell (p := ⟨g, 2, none⟩) hg).trans c2
    have hlk := fun x y z => hL (wr.alloc (.cells #[x, y, z] 45)) (hB.alloc hB.size _)
    rcases (show k = 0 ∨ k = 1 by omega) with rfl | rfl
    · go_wp2
      go_roundw
      case rel => exact ⟨1, Nat.le_refl _, rfl, hB.alloc hB.size _⟩
      case measure => decide
    · go_wp2
      go_ret
      exact ⟨rfl, hB⟩

set_option maxHeartbeats 1000000 in
theorem matches0tt (g : Nat) (key val v : ByteArray) (mv : Value) (w : World) (_heq : (v.toList == val.toList) = true)
    (c0 : w.cell? ⟨g, 0, none⟩ = some (.string key)) (c1 : w.cell? ⟨g, 1, none⟩ = some (.string val)) (c2 : w.cell? ⟨g, 2, none⟩ = some (.int .i64 0)) (hL : Looks w w.heap.size mv key v true) :
    Calls Try.prog 14 #[.slice (some ⟨g, 0, none⟩) 1 1, mv] w fun e w' => e = .returned (.bool true) ∧ Below w.heap.size w w' := by
  have hg : g < w.heap.size := block_lt_of_cell c0
  go_enter Try.func14, Try.ntmps14
  go_wp2
  go_loopw [11] (fun i wr => ∃ k : Nat, k ≤ 1 ∧ i = .int .i64 k ∧ Below w.heap.size w wr) (fun i _ => 1 - (intOf i).toNat)
  case atStart => exact ⟨0, Nat.zero_le _, rfl, Below.refl _ _⟩
  case round =>
    obtain ⟨k, hk, rfl, hB⟩ := hrel
    have d0 := (hB.cell (p := ⟨g, 0, none⟩) hg).trans c0
    have d1 := (hB.cell (p := ⟨g, 1, none⟩) hg).trans c1
    have d2 := (hB.cell (p := ⟨g, 2, none⟩) hg).trans c2
    have hlk := fun x y z => hL (wr.alloc (.cells #[x, y, z] 45)) (hB.alloc hB.size _)
    rcases (show k = 0 ∨ k = 1 by omega) with rfl | rfl
    · go_wp2
      go_roundw
      case rel => exact ⟨1, Nat.le_refl _, rfl, hB.alloc hB.size _⟩
      case measure => decide
    · go_wp2
      go_ret
      exact ⟨rfl, hB⟩

theorem matches0 (g : Nat) (key val v : ByteArray) (has eq : Bool) (mv : Value) (w : World) (heq : (v.toList == val.toList) = eq)
    (c0 : w.cell? ⟨g, 0, none⟩ = some (.string key)) (c1 : w.cell? ⟨g, 1, none⟩ = some (.string val)) (c2 : w.cell? ⟨g, 2, none⟩ = some (.int .i64 0)) (hL : Looks w w.heap.size mv key v has) :
    Calls Try.prog 14 #[.slice (some ⟨g, 0, none⟩) 1 1, mv] w fun e w' => e = .returned (.bool (sat 0 has eq)) ∧ Below w.heap.size w w' := by
  cases has
  · cases eq
    · exact matches0ff g key val v mv w heq c0 c1 c2 hL
    · exact matches0ft g key val v mv w heq c0 c1 c2 hL
  · cases eq
    · exact matches0tf g key val v mv w heq c0 c1 c2 hL
    · exact matches0tt g key val v mv w heq c0 c1 c2 hL

set_option maxHeartbeats 1000000 in
theorem matches1ff (g : Nat) (key val v : ByteArray) (mv : Value) (w : World) (_heq : (v.toList == val.toList) = false)
    (c0 : w.cell? ⟨g, 0, none⟩ = some (.string key)) (c1 : w.cell? ⟨g, 1, none⟩ = some (.string val)) (c2 : w.cell? ⟨g, 2, none⟩ = some (.int .i64 1)) (hL : Looks w w.heap.size mv key v false) :
    Calls Try.prog 14 #[.slice (some ⟨g, 0, none⟩) 1 1, mv] w fun e w' => e = .returned (.bool true) ∧ Below w.heap.size w w' := by
  have hg : g < w.heap.size := block_lt_of_cell c0
  go_enter Try.func14, Try.ntmps14
  go_wp2
  go_loopw [11] (fun i wr => ∃ k : Nat, k ≤ 1 ∧ i = .int .i64 k ∧ Below w.heap.size w wr) (fun i _ => 1 - (intOf i).toNat)
  case atStart => exact ⟨0, Nat.zero_le _, rfl, Below.refl _ _⟩
  case round =>
    obtain ⟨k, hk, rfl, hB⟩ := hrel
    have d0 := (hB.cell (p := ⟨g, 0, none⟩) hg).trans c0
    have d1 := (hB.cell (p := ⟨g, 1, none⟩) hg).trans c1
    have d2 := (hB.cell (p := ⟨g, 2, none⟩) hg).trans c2
    have hlk := fun x y z => hL (wr.alloc (.cells #[x, y, z] 45)) (hB.alloc hB.size _)
    rcases (show k = 0 ∨ k = 1 by omega) with rfl | rfl
    · go_wp2
      go_roundw
      case rel => exact ⟨1, Nat.le_refl _, rfl, hB.alloc hB.size _⟩
      case measure => decide
    · go_wp2
      go_ret
      exact ⟨rfl, hB⟩

set_option maxHeartbeats 1000000 in
theorem matches1ft (g : Nat) (key val v : ByteArray) (mv : Value) (w : World) (_heq : (v.toList == val.toList) = true)
    (c0 : w.cell? ⟨g, 0, none⟩ = some (.string key)) (c1 : w.cell? ⟨g, 1, none⟩ = some (.string val)) (c2 : w.cell? ⟨g, 2, none⟩ = some (.int .i64 1)) (hL : Looks w w.heap.size mv key v false) :
    Calls Try.prog 14 #[.slice (some ⟨g, 0, none⟩) 1 1, mv] w fun e w' => e = .returned (.bool true) ∧ Below w.heap.size w w' := by
  have hg : g < w.heap.size := block_lt_of_cell c0
  go_enter Try.func14, Try.ntmps14
  go_wp2
  go_loopw [11] (fun i wr => ∃ k : Nat, k ≤ 1 ∧ i = .int .i64 k ∧ Below w.heap.size w wr) (fun i _ => 1 - (intOf i).toNat)
  case atStart => exact ⟨0, Nat.zero_le _, rfl, Below.refl _ _⟩
  case round =>
    obtain ⟨k, hk, rfl, hB⟩ := hrel
    have d0 := (hB.cell (p := ⟨g, 0, none⟩) hg).trans c0
    have d1 := (hB.cell (p := ⟨g, 1, none⟩) hg).trans c1
    have d2 := (hB.cell (p := ⟨g, 2, none⟩) hg).trans c2
    have hlk := fun x y z => hL (wr.alloc (.cells #[x, y, z] 45)) (hB.alloc hB.size _)
    rcases (show k = 0 ∨ k = 1 by omega) with rfl | rfl
    · go_wp2
      go_roundw
      case rel => exact ⟨1, Nat.le_refl _, rfl, hB.alloc hB.size _⟩
      case measure => decide
    · go_wp2
      go_ret
      exact ⟨rfl, hB⟩

set_option maxHeartbeats 1000000 in
theorem matches1tf (g : Nat) (key val v : ByteArray) (mv : Value) (w : World) (_heq : (v.toList == val.toList) = false)
    (c0 : w.cell? ⟨g, 0, none⟩ = some (.string key)) (c1 : w.cell? ⟨g, 1, none⟩ = some (.string val)) (c2 : w.cell? ⟨g, 2, none⟩ = some (.int .i64 1)) (hL : Looks w w.heap.size mv key v true) :
    Calls Try.prog 14 #[.slice (some ⟨g, 0, none⟩) 1 1, mv] w fun e w' => e = .returned (.bool false) ∧ Below w.heap.size w w' := by
  have hg : g < w.heap.size := block_lt_of_cell c0
  go_enter Try.func14, Try.ntmps14
  go_wp2
  go_loopw [11] (fun i wr => ∃ k : Nat, k ≤ 0 ∧ i = .int .i64 k ∧ Below w.heap.size w wr) (fun i _ => 1 - (intOf i).toNat)
  case atStart => exact ⟨0, Nat.zero_le _, rfl, Below.refl _ _⟩
  case round =>
    obtain ⟨k, hk, rfl, hB⟩ := hrel
    have d0 := (hB.cell (p := ⟨g, 0, none⟩) hg).trans c0
    have d1 := (hB.cell (p := ⟨g, 1, none⟩) hg).trans c1
    have d2 := (hB.cell (p := ⟨g, 2, none⟩) hg).trans c2
    have hlk := fun x y z => hL (wr.alloc (.cells #[x, y, z] 45)) (hB.alloc hB.size _)
    obtain rfl : k = 0 := by omega
    go_wp2
    go_ret
    exact ⟨rfl, hB.alloc hB.size _⟩

set_option maxHeartbeats 1000000 in
theorem matches1tt (g : Nat) (key val v : ByteArray) (mv : Value) (w : World) (_heq : (v.toList == val.toList) = true)
    (c0 : w.cell? ⟨g, 0, none⟩ = some (.string key)) (c1 : w.cell? ⟨g, 1, none⟩ = some (.string val)) (c2 : w.cell? ⟨g, 2, none⟩ = some (.int .i64 1)) (hL : Looks w w.heap.size mv key v true) :
    Calls Try.prog 14 #[.slice (some ⟨g, 0, none⟩) 1 1, mv] w fun e w' => e = .returned (.bool false) ∧ Below w.heap.size w w' := by
  have hg : g < w.heap.size := block_lt_of_cell c0
  go_enter Try.func14, Try.ntmps14
  go_wp2
  go_loopw [11] (fun i wr => ∃ k : Nat, k ≤ 0 ∧ i = .int .i64 k ∧ Below w.heap.size w wr) (fun i _ => 1 - (intOf i).toNat)
  case atStart => exact ⟨0, Nat.zero_le _, rfl, Below.refl _ _⟩
  case round =>
    obtain ⟨k, hk, rfl, hB⟩ := hrel
    have d0 := (hB.cell (p := ⟨g, 0, none⟩) hg).trans c0
    have d1 := (hB.cell (p := ⟨g, 1, none⟩) hg).trans c1
    have d2 := (hB.cell (p := ⟨g, 2, none⟩) hg).trans c2
    have hlk := fun x y z => hL (wr.alloc (.cells #[x, y, z] 45)) (hB.alloc hB.size _)
    obtain rfl : k = 0 := by omega
    go_wp2
    go_ret
    exact ⟨rfl, hB.alloc hB.size _⟩

theorem matches1 (g : Nat) (key val v : ByteArray) (has eq : Bool) (mv : Value) (w : World) (heq : (v.toList == val.toList) = eq)
    (c0 : w.cell? ⟨g, 0, none⟩ = some (.string key)) (c1 : w.cell? ⟨g, 1, none⟩ = some (.string val)) (c2 : w.cell? ⟨g, 2, none⟩ = some (.int .i64 1)) (hL : Looks w w.heap.size mv key v has) :
    Calls Try.prog 14 #[.slice (some ⟨g, 0, none⟩) 1 1, mv] w fun e w' => e = .returned (.bool (sat 1 has eq)) ∧ Below w.heap.size w w' := by
  cases has
  · cases eq
    · exact matches1ff g key val v mv w heq c0 c1 c2 hL
    · exact matches1ft g key val v mv w heq c0 c1 c2 hL
  · cases eq
    · exact matches1tf g key val v mv w heq c0 c1 c2 hL
    · exact matches1tt g key val v mv w heq c0 c1 c2 hL

set_option maxHeartbeats 1000000 in
theorem matches2ff (g : Nat) (key val v : ByteArray) (mv : Value) (w : World) (_heq : (v.toList == val.toList) = false)
    (c0 : w.cell? ⟨g, 0, none⟩ = some (.string key)) (c1 : w.cell? ⟨g, 1, none⟩ = some (.string val)) (c2 : w.cell? ⟨g, 2, none⟩ = some (.int .i64 2)) (hL : Looks w w.heap.size mv key v false) :
    Calls Try.prog 14 #[.slice (some ⟨g, 0, none⟩) 1 1, mv] w fun e w' => e = .returned (.bool false) ∧ Below w.heap.size w w' := by
  have hg : g < w.heap.size := block_lt_of_cell c0
  go_enter Try.func14, Try.ntmps14
  go_wp2
  go_loopw [11] (fun i wr => ∃ k : Nat, k ≤ 0 ∧ i = .int .i64 k ∧ Below w.heap.size w wr) (fun i _ => 1 - (intOf i).toNat)
  case atStart => exact ⟨0, Nat.zero_le _, rfl, Below.refl _ _⟩
  case round =>
    obtain ⟨k, hk, rfl, hB⟩ := hrel
    have d0 := (hB.cell (p := ⟨g, 0, none⟩) hg).trans c0
    have d1 := (hB.cell (p := ⟨g, 1, none⟩) hg).trans c1
    have d2 := (hB.cell (p := ⟨g, 2, none⟩) hg).trans c2
    have hlk := fun x y z => hL (wr.alloc (.cells #[x, y, z] 45)) (hB.alloc hB.size _)
    obtain rfl : k = 0 := by omega
    go_wp2
    go_ret
    exact ⟨rfl, hB.alloc hB.size _⟩

set_option maxHeartbeats 1000000 in
theorem matches2ft (g : Nat) (key val v : ByteArray) (mv : Value) (w : World) (_heq : (v.toList == val.toList) = true)
    (c0 : w.cell? ⟨g, 0, none⟩ = some (.string key)) (c1 : w.cell? ⟨g, 1, none⟩ = some (.string val)) (c2 : w.cell? ⟨g, 2, none⟩ = some (.int .i64 2)) (hL : Looks w w.heap.size mv key v false) :
    Calls Try.prog 14 #[.slice (some ⟨g, 0, none⟩) 1 1, mv] w fun e w' => e = .returned (.bool false) ∧ Below w.heap.size w w' := by
  have hg : g < w.heap.size := block_lt_of_cell c0
  go_enter Try.func14, Try.ntmps14
  go_wp2
  go_loopw [11] (fun i wr => ∃ k : Nat, k ≤ 0 ∧ i = .int .i64 k ∧ Below w.heap.size w wr) (fun i _ => 1 - (intOf i).toNat)
  case atStart => exact ⟨0, Nat.zero_le _, rfl, Below.refl _ _⟩
  case round =>
    obtain ⟨k, hk, rfl, hB⟩ := hrel
    have d0 := (hB.cell (p := ⟨g, 0, none⟩) hg).trans c0
    have d1 := (hB.cell (p := ⟨g, 1, none⟩) hg).trans c1
    have d2 := (hB.cell (p := ⟨g, 2, none⟩) hg).trans c2
    have hlk := fun x y z => hL (wr.alloc (.cells #[x, y, z] 45)) (hB.alloc hB.size _)
    obtain rfl : k = 0 := by omega
    go_wp2
    go_ret
    exact ⟨rfl, hB.alloc hB.size _⟩

set_option maxHeartbeats 1000000 in
theorem matches2tf (g : Nat) (key val v : ByteArray) (mv : Value) (w : World) (_heq : (v.toList == val.toList) = false)
    (c0 : w.cell? ⟨g, 0, none⟩ = some (.string key)) (c1 : w.cell? ⟨g, 1, none⟩ = some (.string val)) (c2 : w.cell? ⟨g, 2, none⟩ = some (.int .i64 2)) (hL : Looks w w.heap.size mv key v true) :
    Calls Try.prog 14 #[.slice (some ⟨g, 0, none⟩) 1 1, mv] w fun e w' => e = .returned (.bool false) ∧ Below w.heap.size w w' := by
  have hg : g < w.heap.size := block_lt_of_cell c0
  go_enter Try.func14, Try.ntmps14
  go_wp2
  go_loopw [11] (fun i wr => ∃ k : Nat, k ≤ 0 ∧ i = .int .i64 k ∧ Below w.heap.size w wr) (fun i _ => 1 - (intOf i).toNat)
  case atStart => exact ⟨0, Nat.zero_le _, rfl, Below.refl _ _⟩
  case round =>
    obtain ⟨k, hk, rfl, hB⟩ := hrel
    have d0 := (hB.cell (p := ⟨g, 0, none⟩) hg).trans c0
    have d1 := (hB.cell (p := ⟨g, 1, none⟩) hg).trans c1
    have d2 := (hB.cell (p := ⟨g, 2, none⟩) hg).trans c2
    have hlk := fun x y z => hL (wr.alloc (.cells #[x, y, z] 45)) (hB.alloc hB.size _)
    obtain rfl : k = 0 := by omega
    go_wp2
    go_ret
    exact ⟨rfl, hB.alloc hB.size _⟩

set_option maxHeartbeats 1000000 in
theorem matches2tt (g : Nat) (key val v : ByteArray) (mv : Value) (w : World) (_heq : (v.toList == val.toList) = true)
    (c0 : w.cell? ⟨g, 0, none⟩ = some (.string key)) (c1 : w.cell? ⟨g, 1, none⟩ = some (.string val)) (c2 : w.cell? ⟨g, 2, none⟩ = some (.int .i64 2)) (hL : Looks w w.heap.size mv key v true) :
    Calls Try.prog 14 #[.slice (some ⟨g, 0, none⟩) 1 1, mv] w fun e w' => e = .returned (.bool true) ∧ Below w.heap.size w w' := by
  have hg : g < w.heap.size := block_lt_of_cell c0
  go_enter Try.func14, Try.ntmps14
  go_wp2
  go_loopw [11] (fun i wr => ∃ k : Nat, k ≤ 1 ∧ i = .int .i64 k ∧ Below w.heap.size w wr) (fun i _ => 1 - (intOf i).toNat)
  case atStart => exact ⟨0, Nat.zero_le _, rfl, Below.refl _ _⟩
  case round =>
    obtain ⟨k, hk, rfl, hB⟩ := hrel
    have d0 := (hB.cell (p := ⟨g, 0, none⟩) hg).trans c0
    have d1 := (hB.cell (p := ⟨g, 1, none⟩) hg).trans c1
    have d2 := (hB.cell (p := ⟨g, 2, none⟩) hg).trans c2
    have hlk := fun x y z => hL (wr.alloc (.cells #[x, y, z] 45)) (hB.alloc hB.size _)
    rcases (show k = 0 ∨ k = 1 by omega) with rfl | rfl
    · go_wp2
      go_roundw
      case rel => exact ⟨1, Nat.le_refl _, rfl, hB.alloc hB.size _⟩
      case measure => decide
    · go_wp2
      go_ret
      exact ⟨rfl, hB⟩

theorem matches2 (g : Nat) (key val v : ByteArray) (has eq : Bool) (mv : Value) (w : World) (heq : (v.toList == val.toList) = eq)
    (c0 : w.cell? ⟨g, 0, none⟩ = some (.string key)) (c1 : w.cell? ⟨g, 1, none⟩ = some (.string val)) (c2 : w.cell? ⟨g, 2, none⟩ = some (.int .i64 2)) (hL : Looks w w.heap.size mv key v has) :
    Calls Try.prog 14 #[.slice (some ⟨g, 0, none⟩) 1 1, mv] w fun e w' => e = .returned (.bool (sat 2 has eq)) ∧ Below w.heap.size w w' := by
  cases has
  · cases eq
    · exact matches2ff g key val v mv w heq c0 c1 c2 hL
    · exact matches2ft g key val v mv w heq c0 c1 c2 hL
  · cases eq
    · exact matches2tf g key val v mv w heq c0 c1 c2 hL
    · exact matches2tt g key val v mv w heq c0 c1 c2 hL

set_option maxHeartbeats 1000000 in
theorem matches3ff (g : Nat) (key val v : ByteArray) (mv : Value) (w : World) (_heq : (v.toList == val.toList) = false)
    (c0 : w.cell? ⟨g, 0, none⟩ = some (.string key)) (c1 : w.cell? ⟨g, 1, none⟩ = some (.string val)) (c2 : w.cell? ⟨g, 2, none⟩ = some (.int .i64 3)) (hL : Looks w w.heap.size mv key v false) :
    Calls Try.prog 14 #[.slice (some ⟨g, 0, none⟩) 1 1, mv] w fun e w' => e = .returned (.bool true) ∧ Below w.heap.size w w' := by
  have hg : g < w.heap.size := block_lt_of_cell c0
  go_enter Try.func14, Try.ntmps14
  go_wp2
  go_loopw [11] (fun i wr => ∃ k : Nat, k ≤ 1 ∧ i = .int .i64 k ∧ Below w.heap.size w wr) (fun i _ => 1 - (intOf i).toNat)
  case atStart => exact ⟨0, Nat.zero_le _, rfl, Below.refl _ _⟩
  case round =>
    obtain ⟨k, hk, rfl, hB⟩ := hrel
    have d0 := (hB.cell (p := ⟨g, 0, none⟩) hg).trans c0
    have d1 := (hB.cell (p := ⟨g, 1, none⟩) hg).trans c1
    have d2 := (hB.cell (p := ⟨g, 2, none⟩) hg).trans c2
    have hlk := fun x y z => hL (wr.alloc (.cells #[x, y, z] 45)) (hB.alloc hB.size _)
    rcases (show k = 0 ∨ k = 1 by omega) with rfl | rfl
    · go_wp2
      go_roundw
      case rel => exact ⟨1, Nat.le_refl _, rfl, hB.alloc hB.size _⟩
      case measure => decide
    · go_wp2
      go_ret
      exact ⟨rfl, hB⟩

set_option maxHeartbeats 1000000 in
theorem matches3ft (g : Nat) (key val v : ByteArray) (mv : Value) (w : World) (_heq : (v.toList == val.toList) = true)
    (c0 : w.cell? ⟨g, 0, none⟩ = some (.string key)) (c1 : w.cell? ⟨g, 1, none⟩ = some (.string val)) (c2 : w.cell? ⟨g, 2, none⟩ = some (.int .i64 3)) (hL : Looks w w.heap.size mv key v false) :
    Calls Try.prog 14 #[.slice (some ⟨g, 0, none⟩) 1 1, mv] w fun e w' => e = .returned (.bool true) ∧ Below w.heap.size w w' := by
  have hg : g < w.heap.size := block_lt_of_cell c0
  go_enter Try.func14, Try.ntmps14
  go_wp2
  go_loopw [11] (fun i wr => ∃ k : Nat, k ≤ 1 ∧ i = .int .i64 k ∧ Below w.heap.size w wr) (fun i _ => 1 - (intOf i).toNat)
  case atStart => exact ⟨0, Nat.zero_le _, rfl, Below.refl _ _⟩
  case round =>
    obtain ⟨k, hk, rfl, hB⟩ := hrel
    have d0 := (hB.cell (p := ⟨g, 0, none⟩) hg).trans c0
    have d1 := (hB.cell (p := ⟨g, 1, none⟩) hg).trans c1
    have d2 := (hB.cell (p := ⟨g, 2, none⟩) hg).trans c2
    have hlk := fun x y z => hL (wr.alloc (.cells #[x, y, z] 45)) (hB.alloc hB.size _)
    rcases (show k = 0 ∨ k = 1 by omega) with rfl | rfl
    · go_wp2
      go_roundw
      case rel => exact ⟨1, Nat.le_refl _, rfl, hB.alloc hB.size _⟩
      case measure => decide
    · go_wp2
      go_ret
      exact ⟨rfl, hB⟩

set_option maxHeartbeats 1000000 in
theorem matches3tf (g : Nat) (key val v : ByteArray) (mv : Value) (w : World) (_heq : (v.toList == val.toList) = false)
    (c0 : w.cell? ⟨g, 0, none⟩ = some (.string key)) (c1 : w.cell? ⟨g, 1, none⟩ = some (.string val)) (c2 : w.cell? ⟨g, 2, none⟩ = some (.int .i64 3)) (hL : Looks w w.heap.size mv key v true) :
    Calls Try.prog 14 #[.slice (some ⟨g, 0, none⟩) 1 1, mv] w fun e w' => e = .returned (.bool true) ∧ Below w.heap.size w w' := by
  have hg : g < w.heap.size := block_lt_of_cell c0
  go_enter Try.func14, Try.ntmps14
  go_wp2
  go_loopw [11] (fun i wr => ∃ k : Nat, k ≤ 1 ∧ i = .int .i64 k ∧ Below w.heap.size w wr) (fun i _ => 1 - (intOf i).toNat)
  case atStart => exact ⟨0, Nat.zero_le _, rfl, Below.refl _ _⟩
  case round =>
    obtain ⟨k, hk, rfl, hB⟩ := hrel
    have d0 := (hB.cell (p := ⟨g, 0, none⟩) hg).trans c0
    have d1 := (hB.cell (p := ⟨g, 1, none⟩) hg).trans c1
    have d2 := (hB.cell (p := ⟨g, 2, none⟩) hg).trans c2
    have hlk := fun x y z => hL (wr.alloc (.cells #[x, y, z] 45)) (hB.alloc hB.size _)
    rcases (show k = 0 ∨ k = 1 by omega) with rfl | rfl
    · go_wp2
      go_roundw
      case rel => exact ⟨1, Nat.le_refl _, rfl, hB.alloc hB.size _⟩
      case measure => decide
    · go_wp2
      go_ret
      exact ⟨rfl, hB⟩

set_option maxHeartbeats 1000000 in
theorem matches3tt (g : Nat) (key val v : ByteArray) (mv : Value) (w : World) (_heq : (v.toList == val.toList) = true)
    (c0 : w.cell? ⟨g, 0, none⟩ = some (.string key)) (c1 : w.cell? ⟨g, 1, none⟩ = some (.string val)) (c2 : w.cell? ⟨g, 2, none⟩ = some (.int .i64 3)) (hL : Looks w w.heap.size mv key v true) :
    Calls Try.prog 14 #[.slice (some ⟨g, 0, none⟩) 1 1, mv] w fun e w' => e = .returned (.bool false) ∧ Below w.heap.size w w' := by
  have hg : g < w.heap.size := block_lt_of_cell c0
  go_enter Try.func14, Try.ntmps14
  go_wp2
  go_loopw [11] (fun i wr => ∃ k : Nat, k ≤ 0 ∧ i = .int .i64 k ∧ Below w.heap.size w wr) (fun i _ => 1 - (intOf i).toNat)
  case atStart => exact ⟨0, Nat.zero_le _, rfl, Below.refl _ _⟩
  case round =>
    obtain ⟨k, hk, rfl, hB⟩ := hrel
    have d0 := (hB.cell (p := ⟨g, 0, none⟩) hg).trans c0
    have d1 := (hB.cell (p := ⟨g, 1, none⟩) hg).trans c1
    have d2 := (hB.cell (p := ⟨g, 2, none⟩) hg).trans c2
    have hlk := fun x y z => hL (wr.alloc (.cells #[x, y, z] 45)) (hB.alloc hB.size _)
    obtain rfl : k = 0 := by omega
    go_wp2
    go_ret
    exact ⟨rfl, hB.alloc hB.size _⟩

theorem matches3 (g : Nat) (key val v : ByteArray) (has eq : Bool) (mv : Value) (w : World) (heq : (v.toList == val.toList) = eq)
    (c0 : w.cell? ⟨g, 0, none⟩ = some (.string key)) (c1 : w.cell? ⟨g, 1, none⟩ = some (.string val)) (c2 : w.cell? ⟨g, 2, none⟩ = some (.int .i64 3)) (hL : Looks w w.heap.size mv key v has) :
    Calls Try.prog 14 #[.slice (some ⟨g, 0, none⟩) 1 1, mv] w fun e w' => e = .returned (.bool (sat 3 has eq)) ∧ Below w.heap.size w w' := by
  cases has
  · cases eq
    · exact matches3ff g key val v mv w heq c0 c1 c2 hL
    · exact matches3ft g key val v mv w heq c0 c1 c2 hL
  · cases eq
    · exact matches3tf g key val v mv w heq c0 c1 c2 hL
    · exact matches3tt g key val v mv w heq c0 c1 c2 hL

theorem matches_one (g : Nat) (key val v : ByteArray) (has eq : Bool) (op : Int) (mv : Value) (w : World) (hop : op = 0 ∨ op = 1 ∨ op = 2 ∨ op = 3) (heq : (v.toList == val.toList) = eq)
    (c0 : w.cell? ⟨g, 0, none⟩ = some (.string key)) (c1 : w.cell? ⟨g, 1, none⟩ = some (.string val)) (c2 : w.cell? ⟨g, 2, none⟩ = some (.int .i64 op)) (hL : Looks w w.heap.size mv key v has) :
    Calls Try.prog 14 #[.slice (some ⟨g, 0, none⟩) 1 1, mv] w fun e w' => e = .returned (.bool (sat op has eq)) ∧ Below w.heap.size w w' := by
  rcases hop with rfl | rfl | rfl | rfl
  · exact matches0 g key val v has eq mv w heq c0 c1 c2 hL
  · exact matches1 g key val v has eq mv w heq c0 c1 c2 hL
  · exact matches2 g key val v has eq mv w heq c0 c1 c2 hL
  · exact matches3 g key val v has eq mv w heq c0 c1 c2 hL

end Go.Proofs.Qxb6601297a
