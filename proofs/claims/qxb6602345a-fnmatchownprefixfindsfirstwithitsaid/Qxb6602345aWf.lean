/-
  Seat b6602345a. '(Types).Match': the first row among those whose opening starts the token and is the longest.
-/
import Derived.Test.Qxb6602345aWd
import Derived.Test.Qxb6602345aWe
namespace Go.Proofs.Qxb6602345a
open Go.RowKit

def zeroRw : Rw := ⟨⟨#[]⟩, ⟨#[]⟩, 0, ⟨#[]⟩⟩

/-- The best of the first k rows: none, or the first of the longest. -/
def Best (R : Nat → Rw) (s : ByteArray) (k : Nat) : Option Nat → Prop
  | none => ∀ j, j < k → preB s (R j).px = false
  | some m => m < k ∧ preB s (R m).px = true ∧ (∀ j, j < k → preB s (R j).px = true → (R j).px.size ≤ (R m).px.size) ∧ ∀ j, j < m → preB s (R j).px = true → (R j).px.size < (R m).px.size

def bestRw (R : Nat → Rw) : Option Nat → Rw
  | none => zeroRw
  | some m => R m

theorem Best.start (R : Nat → Rw) (s : ByteArray) : Best R s 0 none := fun j hj => absurd hj (by omega)

theorem Best.miss {R : Nat → Rw} {s : ByteArray} {k : Nat} {o : Option Nat} (h : Best R s k o) (hp : preB s (R k).px = false) : Best R s (k + 1) o := by
  cases o with
  | none => exact fun j hj => if e : j = k then e ▸ hp else h j (by omega)
  | some m =>
    obtain ⟨h1, h2, h3, h4⟩ := h
    refine ⟨by omega, h2, fun j hj hq => ?_, h4⟩
    by_cases e : j = k
    · subst e
      rw [hp] at hq
      cases hq
    · exact h3 j (by omega) hq

theorem Best.first {R : Nat → Rw} {s : ByteArray} {k : Nat} (h : Best R s k none) (hp : preB s (R k).px = true) : Best R s (k + 1) (some k) := by
  refine ⟨by omega, hp, fun j hj hq => ?_, fun j hj hq => ?_⟩
  · by_cases e : j = k
    · subst e; exact Nat.le_refl _
    · rw [h j (by omega)] at hq; cases hq
  · rw [h j hj] at hq; cases hq

theorem Best.longer {R : Nat → Rw} {s : ByteArray} {k m : Nat} (h : Best R s k (some m)) (hp : preB s (R k).px = true) (hl : (R m).px.size < (R k).px.size) : Best R s (k + 1) (some k) := by
  obtain ⟨h1, h2, h3, h4⟩ := h
  refine ⟨by omega, hp, fun j hj hq => ?_, fun j hj hq => ?_⟩
  · by_cases e : j = k
    · subst e; exact Nat.le_refl _
    · have := h3 j (by omega) hq; omega
  · have := h3 j hj hq; omega

theorem Best.same {R : Nat → Rw} {s : ByteArray} {k m : Nat} (h : Best R s k (some m)) (hl : ¬ (R m).px.size < (R k).px.size) : Best R s (k + 1) (some m) := by
  obtain ⟨h1, h2, h3, h4⟩ := h
  refine ⟨by omega, h2, fun j hj hq => ?_, h4⟩
  by_cases e : j = k
  · subst e; omega
  · exact h3 j (by omega) hq

/-- Block g is one struct of four cells that holds r. -/
def BoxIs (w : World) (g : Nat) (r : Rw) : Prop := w.heap[g]? = some (.cells #[.string r.nm, .string r.px, .int .i64 r.rl, .string r.cs] 29 (0, 0))

theorem BoxIs.lt {w : World} {g : Nat} {r : Rw} (h : BoxIs w g r) : g < w.heap.size := (Array.getElem?_eq_some_iff.1 h).1

theorem BoxIs.cells {w : World} {g : Nat} {r : Rw} (h : BoxIs w g r) : w.cell? ⟨g, 0, none⟩ = some (.string r.nm) ∧ w.cell? ⟨g, 1, none⟩ = some (.string r.px) ∧ w.cell? ⟨g, 2, none⟩ = some (.int .i64 r.rl) ∧ w.cell? ⟨g, 3, none⟩ = some (.string r.cs) := by
  refine ⟨?_, ?_, ?_, ?_⟩ <;> rw [cell_of_row w g _ _ 29 _ h] <;> rfl

theorem BoxIs.free {w : World} {g : Nat} {r : Rw} (h : BoxIs w g r) (j : Nat) : w.frozen? ⟨g, j, none⟩ = false := frozen_of_row w g j _ 29 h

theorem BoxIs.later {w w' : World} {g B : Nat} {r : Rw} (h : BoxIs w g r) (hb : Below B w w') (hg : g < B) : BoxIs w' g r := (hb.block g hg).trans h

theorem BoxIs.store {w : World} {g : Nat} {r : Rw} (h : BoxIs w g r) (r' : Rw) : BoxIs ((((w.setCell ⟨g, 0, none⟩ (.string r'.nm)).setCell ⟨g, 1, none⟩ (.string r'.px)).setCell ⟨g, 2, none⟩ (.int .i64 r'.rl)).setCell ⟨g, 3, none⟩ (.string r'.cs)) g r' :=
  heap_setCell_same _ g _ _ 29 _ (heap_setCell_same _ g _ _ 29 _ (heap_setCell_same _ g _ _ 29 _ (heap_setCell_same w g _ _ 29 _ h)))

theorem below4 (w : World) (B g : Nat) (v0 v1 v2 v3 : Value) (h : B ≤ g) : Below B w ((((w.setCell ⟨g, 0, none⟩ v0).setCell ⟨g, 1, none⟩ v1).setCell ⟨g, 2, none⟩ v2).setCell ⟨g, 3, none⟩ v3) :=
  Below.setCell (p := ⟨g, 3, none⟩) (Below.setCell (p := ⟨g, 2, none⟩) (Below.setCell (p := ⟨g, 1, none⟩) (Below.setCell (p := ⟨g, 0, none⟩) (Below.refl _ _) h _) h _) h _) h _

def MatchB (w : World) (len : Nat) (R : Nat → Rw) (s : ByteArray) (e : Ending) (w' : World) : Prop :=
  Below w.heap.size w w' ∧ ∃ o, Best R s len o ∧ e = .returned (.tuple #[(bestRw R o).val, .bool o.isSome])

set_option maxHeartbeats 1000000 in
theorem match_any (a : Option Addr) (len cap : Nat) (R : Nat → Rw) (s : ByteArray) (w : World) (hl : len ≤ 65536) (ht : Tab w a len R) :
    Calls Try.prog 14 #[.slice a len cap, .string s] w fun e w' => MatchB w len R s e w' := by
  go_enter Try.func14, Try.ntmps14
  go_wp2
  go_loopw [7, 12] (fun f i wr => ∃ (k : Nat) (o : Option Nat), k ≤ len ∧ f = .bool o.isSome ∧ i = .int .i64 k ∧ Best R s k o ∧ BoxIs wr (w.heap.size + 1) (bestRw R o) ∧ Box wr w.heap.size ∧ Below w.heap.size w wr) (fun _ i _ => len - (intOf i).toNat)
  case atStart => exact ⟨0, none, Nat.zero_le _, rfl, rfl, Best.start _ _, heap_alloc2_new _ _ _, ⟨_, heap_alloc2_old _ _ _, rfl⟩, ((Below.refl _ _).alloc (Nat.le_refl _) _).alloc (by simp) _⟩
  case round =>
    obtain ⟨k, o, hk, rfl, rfl, hO, hX, hY, hB⟩ := hrel
    have hz : w.heap.size + 1 < wr.heap.size := hX.lt
    have hz' : w.heap.size < wr.heap.size := by omega
    obtain ⟨m0, m1, m2, m3⟩ := hX.cells
    have f0 := hX.free 0
    have f1 := hX.free 1
    have f2 := hX.free 2
    have f3 := hX.free 3
    by_cases hlt : k < len
    · obtain ⟨b, off, rfl, hb, hc⟩ := ht.later hB (Nat.le_refl _) (by omega)
      obtain ⟨c0, c1, c2, c3⟩ := hc k hlt
      clear hc
      cases hp : preB s (R k).px with
      | false =>
        go_wp2_with (go_at_call 26; refine (hasPrefix_any s (R k).px _).mono ?_; rintro e w' ⟨rfl, rfl⟩)
        go_roundw
        case rel => exact ⟨k + 1, o, by omega, rfl, by go_num, hO.miss hp, hX.later ((Below.refl _ _).alloc (Nat.le_refl _) _) hz, hY.later ((Below.refl _ _).alloc (Nat.le_refl _) _) hz', hB.alloc (Nat.le_of_lt hz') _⟩
        case measure => simp [intOf]; omega
      | true =>
        cases o with
        | none =>
          have hS := below4 wr (w.heap.size + 1) (w.heap.size + 1) (.string (R k).nm) (.string (R k).px) (.int .i64 (R k).rl) (.string (R k).cs) (Nat.le_refl _)
          have hS1 := hX.store (R k)
          have hS2 := hY.later hS (Nat.lt_succ_self _)
          have hS3 := hB.trans (hS.mono (Nat.le_succ _))
          clear hS hX hY hB
          go_wp2_with (go_at_call 26; refine (hasPrefix_any s (R k).px _).mono ?_; rintro e w' ⟨rfl, rfl⟩)
          go_roundw
          case rel => exact ⟨k + 1, some k, by omega, rfl, by go_num, hO.first hp, hS1.later ((Below.refl _ _).alloc (Nat.le_refl _) _) hS1.lt, hS2.later ((Below.refl _ _).alloc (Nat.le_refl _) _) hS2.lt, hS3.alloc (Nat.le_of_lt hS2.lt) _⟩
          case measure => simp [intOf]; omega
        | some m =>
          have m1' : wr.cell? ⟨w.heap.size + 1, 1, none⟩ = some (.string (R m).px) := m1
          clear m1
          by_cases hq : ((R m).px.size : Int) < ((R k).px.size : Int)
          · have hq' : (R m).px.size < (R k).px.size := by omega
            have hS := below4 wr (w.heap.size + 1) (w.heap.size + 1) (.string (R k).nm) (.string (R k).px) (.int .i64 (R k).rl) (.string (R k).cs) (Nat.le_refl _)
            have hS1 := hX.store (R k)
            have hS2 := hY.later hS (Nat.lt_succ_self _)
            have hS3 := hB.trans (hS.mono (Nat.le_succ _))
            clear hS hX hY hB
            go_wp2_with (go_at_call 26; refine (hasPrefix_any s (R k).px _).mono ?_; rintro e w' ⟨rfl, rfl⟩)
            go_roundw
            case rel => exact ⟨k + 1, some k, by omega, rfl, by go_num, hO.longer hp hq', hS1.later ((Below.refl _ _).alloc (Nat.le_refl _) _) hS1.lt, hS2.later ((Below.refl _ _).alloc (Nat.le_refl _) _) hS2.lt, hS3.alloc (Nat.le_of_lt hS2.lt) _⟩
            case measure => simp [intOf]; omega
          · have hq' : ¬ (R m).px.size < (R k).px.size := by omega
            go_wp2_with (go_at_call 26; refine (hasPrefix_any s (R k).px _).mono ?_; rintro e w' ⟨rfl, rfl⟩)
            go_roundw
            case rel => exact ⟨k + 1, some m, by omega, rfl, by go_num, hO.same hq', hX.later ((Below.refl _ _).alloc (Nat.le_refl _) _) hz, hY.later ((Below.refl _ _).alloc (Nat.le_refl _) _) hz', hB.alloc (Nat.le_of_lt hz') _⟩
            case measure => simp [intOf]; omega
    · have hk2 : k = len := by omega
      subst hk2
      obtain ⟨⟨z0, p0⟩, g0⟩ := hY.at 0 (by omega)
      obtain ⟨⟨z1, p1⟩, g1⟩ := hY.at 1 (by omega)
      obtain ⟨⟨z2, p2⟩, g2⟩ := hY.at 2 (by omega)
      obtain ⟨⟨z3, p3⟩, g3⟩ := hY.at 3 (by omega)
      go_wp2
      refine bodyPost_ret (v := .tuple #[(bestRw R o).val, .bool o.isSome]) (by simp [results, Try.results14, go_sem, p0, p1, p2, p3]) rfl ⟨?_, o, hO, rfl⟩
      exact hB.trans (below4 wr _ _ _ _ _ _ (Nat.le_refl _))

end Go.Proofs.Qxb6602345a
