/-
  Seat b6602464a. The law 'FnHexQuadReadsBackFourDigits', walked out of its callees' contracts.
-/
import Derived.Test.Qxb6602464aWb
namespace Go.Proofs.Qxb6602464a
open Go.RowKit

set_option maxHeartbeats 400000 in
theorem bytes11 (n m : Int) (a : Option Addr) (len cap : Nat) (w : World) (hl : len ≤ maxLen) :
    Calls Try.prog 11 #[.int .u16 n, .int .u8 m, .slice a len cap] w fun e w' => e = .returned (.bool (decide ((len : Int) ≤ 1048576))) ∧ w' = w := by
  unfold maxLen at hl
  by_cases h1 : (1048576 : Int) < len
  · go_enter Try.func11, Try.ntmps11
    go_wp2
    go_ret
    exact ⟨ret_bool (by simp; omega), rfl⟩
  · go_enter Try.func11, Try.ntmps11
    go_wp2
    go_ret
    exact ⟨ret_bool (by simp), rfl⟩

/-- The digit that writes v. -/
def dg (v : Int) (up : Bool) : Int := if v < 10 then 48 + v else if up then 65 + v - 10 else 97 + v - 10

theorem hx_dg {v : Int} (up : Bool) (h0 : 0 ≤ v) (h1 : v < 16) : hx (dg v up) = v ∧ 0 ≤ dg v up ∧ dg v up ≤ 255 := by
  unfold dg
  by_cases h : v < 10
  · rw [if_pos h, hx_dig (by omega)]; omega
  · rw [if_neg h]
    cases up
    · simp only [Bool.false_eq_true, if_false]
      rw [hx_let (by omega)]; omega
    · simp only [if_true]
      rw [hx_cap (by omega)]; omega

theorem ret_int {k : IntKind} {a b : Int} (h : a = b) : Ending.returned (.int k a) = .returned (.int k b) := by rw [h]

set_option maxHeartbeats 400000 in
theorem hexDigit_any (v : Int) (up : Bool) (w : World) (h0 : 0 ≤ v) (h1 : v < 16) :
    Calls Try.prog 12 #[.int .i64 v, .bool up] w fun e w' => e = .returned (.int .u8 (dg v up)) ∧ w' = w := by
  by_cases h : v < 10
  · go_enter Try.func12, Try.ntmps12
    go_wp2
    go_ret
    exact ⟨ret_int (by simp [dg, h]), rfl⟩
  · have hd : decide (v < 10) = false := by simpa using h
    cases up
    · go_enter Try.func12, Try.ntmps12
      go_wp2
      go_ret
      exact ⟨ret_int (by simp [dg]; omega), rfl⟩
    · go_enter Try.func12, Try.ntmps12
      go_wp2
      go_ret
      exact ⟨ret_int (by simp [dg]; omega), rfl⟩

/-- What is left of n when t digits have been written. -/
def xAt (n : Int) : Nat → Int
  | 0 => n
  | t + 1 => xAt n t / 16

theorem xAt_bd {n : Int} (h0 : 0 ≤ n) (h1 : n ≤ 65535) (t : Nat) : 0 ≤ xAt n t ∧ xAt n t ≤ 65535 := by
  induction t with
  | zero => exact ⟨h0, h1⟩
  | succ t ih => simp only [xAt]; omega

/-- Block g is a row of 4 + len bytes, in which t digits of n have been laid, from the fourth byte down. -/
def DigOk (w : World) (g len : Nat) (n : Int) (t : Nat) : Prop :=
  ∃ (cur : Array Value) (D : Nat → Int), w.heap[g]? = some (.cells cur 5 (0, 0)) ∧ cur.size = 4 + len ∧ ∀ s, s < t → cur[3 - s]? = some (.int .u8 (D s)) ∧ hx (D s) = xAt n s % 16 ∧ 0 ≤ D s ∧ D s ≤ 255

theorem DigOk.lt {w : World} {g len : Nat} {n : Int} {t : Nat} (h : DigOk w g len n t) : g < w.heap.size := by
  obtain ⟨cur, D, h1, _⟩ := h
  exact (Array.getElem?_eq_some_iff.1 h1).1

theorem DigOk.at {w : World} {g len : Nat} {n : Int} {t : Nat} (h : DigOk w g len n t) (j : Nat) (hj : j < 4) : (∃ v, w.cell? ⟨g, j, none⟩ = some v) ∧ w.frozen? ⟨g, j, none⟩ = false := by
  obtain ⟨cur, D, h1, h2, _⟩ := h
  refine ⟨⟨cur[j], ?_⟩, frozen_of_row w g j cur 5 h1⟩
  rw [cell_of_row w g j cur 5 _ h1]
  exact Array.getElem?_eq_getElem (by omega)

theorem DigOk.step {w : World} {g len : Nat} {n : Int} {t : Nat} (h : DigOk w g len n t) (ht : t < 4) (d : Int) (hd : hx d = xAt n t % 16) (h0 : 0 ≤ d) (h1 : d ≤ 255) :
    DigOk (w.setCell ⟨g, 3 - t, none⟩ (.int .u8 d)) g len n (t + 1) := by
  obtain ⟨cur, D, q1, q2, q3⟩ := h
  refine ⟨_, fun s => if s = t then d else D s, heap_setCell_same w g _ cur 5 _ q1, by simpa using q2, fun s hs => ?_⟩
  by_cases e : s = t
  · subst e
    refine ⟨?_, by simpa using hd, by simpa using h0, by simpa using h1⟩
    simp [Array.getElem?_setIfInBounds]
    omega
  · obtain ⟨r1, r2, r3, r4⟩ := q3 s (by omega)
    refine ⟨?_, by simpa [e] using r2, by simpa [e] using r3, by simpa [e] using r4⟩
    rw [Array.getElem?_setIfInBounds, if_neg (by omega)]
    simpa [e] using r1

/-- The bytes of a slice, as the list of its cells' values. -/
def cells8 (Z : Nat → Int) (len : Nat) : List Value := (List.range len).map fun i => .int .u8 (Z i)

theorem DigOk.owns {w : World} {g len : Nat} {n : Int} (h : DigOk w g len n 4) (B : Nat) (hB : B ≤ g) (hl : len ≤ 1048576) :
    ∃ E : Nat → Int, (∀ j, j < 4 → hx (E j) = xAt n (3 - j) % 16 ∧ 0 ≤ E j ∧ E j ≤ 255) ∧ w.ownsRow B 5 1 (.slice (some ⟨g, 0, none⟩) 4 (4 + len)) 4 (cells8 E 4) := by
  obtain ⟨cur, D, q1, q2, q3⟩ := h
  refine ⟨fun j => D (3 - j), fun j hj => (q3 (3 - j) (by omega)).2, by simp [cells8], .inr ⟨g, 4 + len, cur, rfl, hB, q1, by omega, by unfold maxLen; omega, by omega, ?_⟩⟩
  have r0 := (q3 0 (by omega)).1
  have r1 := (q3 1 (by omega)).1
  have r2 := (q3 2 (by omega)).1
  have r3 := (q3 3 (by omega)).1
  apply List.ext_getElem?
  intro i
  match i with
  | 0 => simpa [cells8] using r3
  | 1 => simpa [cells8] using r2
  | 2 => simpa [cells8] using r1
  | 3 => simpa [cells8] using r0
  | i + 4 => simp [cells8]; omega

/-- The four digits, then the bytes that follow them. -/
def joint (E Z : Nat → Int) (j : Nat) : Int := if j < 4 then E j else Z (j - 4)

theorem cells8_joint (E Z : Nat → Int) : cells8 E 4 = cells8 (joint E Z) (4 + 0) := by
  apply List.map_congr_left
  intro i hi
  have := List.mem_range.1 hi
  simp only [joint]
  rw [if_pos (by omega)]

theorem cells8_succ (F : Nat → Int) (n : Nat) : cells8 F (n + 1) = cells8 F n ++ [.int .u8 (F n)] := by
  simp [cells8, List.range_succ]

theorem cells8_at (F : Nat → Int) (n i : Nat) (h : i < n) : (cells8 F n)[i]? = some (.int .u8 (F i)) := by simp [cells8, h]

theorem joint_tail (E Z : Nat → Int) (k : Nat) : joint E Z (4 + k) = Z k := by
  unfold joint
  rw [if_neg (by omega), show 4 + k - 4 = k from by omega]

theorem quad_back {n : Int} (F : Nat → Int) (h0 : 0 ≤ n) (h1 : n ≤ 65535) (h : ∀ j, j < 4 → hx (F j) = xAt n (3 - j) % 16) : quadTo F 4 = n := by
  have q0 : hx (F 0) = xAt n 3 % 16 := h 0 (by omega)
  have q1 : hx (F 1) = xAt n 2 % 16 := h 1 (by omega)
  have q2 : hx (F 2) = xAt n 1 % 16 := h 2 (by omega)
  have q3 : hx (F 3) = xAt n 0 % 16 := h 3 (by omega)
  simp only [quadTo, q0, q1, q2, q3, xAt]
  omega

theorem info5 : (Try.prog.info? 5).map (fun i => (i.zero, i.size, i.bytes)) = some (some (.int .u8 0), 1, 1) := by kernel_rfl

theorem make48 (len : Nat) (hl : len ≤ 1048576) : ∃ C : Array Value, C.size = 4 + len ∧ ∀ w, (Instr.makeSlice 22 (.int .i64 4) (.int .i64 (4 + (len : Int)))).run Try.prog w = .ok (.slice (some ⟨w.heap.size, 0, none⟩) 4 (4 + len)) (w.alloc (.cells C 5)) := by
  obtain ⟨i0, hi, hz0, hz1, hz2⟩ := info_parts info5
  refine ⟨madeCells (Value.int .u8 0).cells (4 + len), by simp [size_madeCells], fun w => ?_⟩
  have := run_make (P := Try.prog) w 22 5 i0 (.int .u8 0) Try.underlying22 hi hz0 .i64 .i64 4 (4 + len) (by omega) (by omega) (by rw [hz2]; omega) (by omega)
  rw [hz1, show (4 + (len : Int)).toNat = 4 + len from by omega] at this
  simpa using this

set_option maxHeartbeats 1000000 in
theorem lawBack (n m : Int) (a : Option Addr) (len cap : Nat) (Z : Nat → Int) (w : World) (hn0 : 0 ≤ n) (hn1 : n ≤ 65535) (hl : len ≤ maxLen) (hr : Row8 w a len Z) :
    Calls Try.prog 4 #[.int .u16 n, .int .u8 m, .slice a len cap] w fun e w' => e = .returned (.bool true) ∧ Below w.heap.size w w' := by
  have hl' := hl
  unfold maxLen at hl'
  by_cases h1 : (1048576 : Int) < len
  · have hd : decide ((len : Int) ≤ 1048576) = false := by simp; omega
    go_enter Try.func4, Try.ntmps4
    go_wp2_with (go_at_call 11; refine (bytes11 n m a len cap _ hl).mono ?_; rintro e w' ⟨rfl, hww⟩; subst hww)
    go_ret
    exact ⟨rfl, Below.refl _ _⟩
  · have hd : decide ((len : Int) ≤ 1048576) = true := by simp; omega
    have hd' : decide ((1048576 : Int) < len) = false := by simpa using h1
    obtain ⟨C, hC, hmk⟩ := make48 len (by omega)
    go_enter Try.func4, Try.ntmps4
    go_wp2_with (go_at_call 11; refine (bytes11 n m a len cap _ hl).mono ?_; rintro e w' ⟨rfl, hww⟩; subst hww)
    go_loopw [8, 9] (fun x i wr => ∃ t : Nat, t ≤ 4 ∧ x = .int .i64 (xAt n t) ∧ i = .int .i64 (3 - (t : Int)) ∧ DigOk wr w'.heap.size len n t ∧ Below w'.heap.size w' wr) (fun _ i _ => (intOf i + 1).toNat)
    case atStart => exact ⟨0, Nat.zero_le _, rfl, rfl, ⟨C, fun _ => 0, heap_alloc_new _ _, hC, fun s hs => absurd hs (by omega)⟩, (Below.refl _ _).alloc (Nat.le_refl _) _⟩
    case round =>
      obtain ⟨t, ht, rfl, rfl, hD, hB⟩ := hrel
      clear hmk
      by_cases hlt : t < 4
      · obtain ⟨x0, x1⟩ := xAt_bd hn0 hn1 t
        rcases (show t = 0 ∨ t = 1 ∨ t = 2 ∨ t = 3 by omega) with rfl | rfl | rfl | rfl
        · obtain ⟨⟨v, pv⟩, fv⟩ := hD.at 3 (by omega)
          rw [show (3 : Int) - ((0 : Nat) : Int) = 3 from rfl]
          go_wp2_with (go_at_call 12; refine (hexDigit_any _ _ _ (by omega) (by omega)).mono ?_; rintro e w3 ⟨rfl, hw3⟩; subst hw3)
          go_roundw
          case rel =>
            obtain ⟨y0, y1, y2⟩ := hx_dg (v := xAt n 0 % 16) (bits BinOp.and IntKind.u8 m 8 != 0) (by omega) (by omega)
            exact ⟨1, by decide, rfl, rfl, hD.step (by decide) _ y0 y1 y2, hB.setCell (Nat.le_refl _) _⟩
          case measure => decide
        · obtain ⟨⟨v, pv⟩, fv⟩ := hD.at 2 (by omega)
          rw [show (3 : Int) - ((1 : Nat) : Int) = 2 from rfl]
          go_wp2_with (go_at_call 12; refine (hexDigit_any _ _ _ (by omega) (by omega)).mono ?_; rintro e w3 ⟨rfl, hw3⟩; subst hw3)
          go_roundw
          case rel =>
            obtain ⟨y0, y1, y2⟩ := hx_dg (v := xAt n 1 % 16) (bits BinOp.and IntKind.u8 m 4 != 0) (by omega) (by omega)
            exact ⟨2, by decide, rfl, rfl, hD.step (by decide) _ y0 y1 y2, hB.setCell (Nat.le_refl _) _⟩
          case measure => decide
        · obtain ⟨⟨v, pv⟩, fv⟩ := hD.at 1 (by omega)
          rw [show (3 : Int) - ((2 : Nat) : Int) = 1 from rfl]
          go_wp2_with (go_at_call 12; refine (hexDigit_any _ _ _ (by omega) (by omega)).mono ?_; rintro e w3 ⟨rfl, hw3⟩; subst hw3)
          go_roundw
          case rel =>
            obtain ⟨y0, y1, y2⟩ := hx_dg (v := xAt n 2 % 16) (bits BinOp.and IntKind.u8 m 2 != 0) (by omega) (by omega)
            exact ⟨3, by decide, rfl, rfl, hD.step (by decide) _ y0 y1 y2, hB.setCell (Nat.le_refl _) _⟩
          case measure => decide
        · obtain ⟨⟨v, pv⟩, fv⟩ := hD.at 0 (by omega)
          rw [show (3 : Int) - ((3 : Nat) : Int) = 0 from rfl]
          go_wp2_with (go_at_call 12; refine (hexDigit_any _ _ _ (by omega) (by omega)).mono ?_; rintro e w3 ⟨rfl, hw3⟩; subst hw3)
          go_roundw
          case rel =>
            obtain ⟨y0, y1, y2⟩ := hx_dg (v := xAt n 3 % 16) (bits BinOp.and IntKind.u8 m 1 != 0) (by omega) (by omega)
            exact ⟨4, by decide, rfl, rfl, hD.step (by decide) _ y0 y1 y2, hB.setCell (Nat.le_refl _) _⟩
          case measure => decide
      · have e4 : t = 4 := by omega
        subst e4
        rw [show (3 : Int) - ((4 : Nat) : Int) = -1 from rfl]
        obtain ⟨E, hE, hown⟩ := hD.owns w'.heap.size (Nat.le_refl _) (by omega)
        have HE : Hid (∀ j, j < 4 → hx (E j) = xAt n (3 - j) % 16 ∧ 0 ≤ E j ∧ E j ≤ 255) := hE
        rw [cells8_joint E Z] at hown
        clear hE hD hlt ht
        obtain ⟨i0, hi, hz0, hz1, hz2⟩ := info_parts info5
        go_wp2_with fail
        go_loopw [7, 10] (fun v i w2 => ∃ k : Nat, k ≤ len ∧ v = .slice (some ⟨w'.heap.size, 0, none⟩) (4 + k) (4 + len) ∧ i = .int .i64 k ∧ w2.ownsRow w'.heap.size 5 1 (.slice (some ⟨w'.heap.size, 0, none⟩) (4 + k) (4 + len)) (4 + k) (cells8 (joint E Z) (4 + k)) ∧ Below w'.heap.size w' w2) (fun _ i _ => len - (intOf i).toNat)
        case atStart => exact ⟨0, Nat.zero_le _, rfl, rfl, hown, hB⟩
        case round =>
          clear hown hB
          obtain ⟨k, hk, rfl, rfl, hown, hB⟩ := hrel
          by_cases hlt : k < len
          · obtain ⟨b, off, rfl, hb, hc⟩ := hr (by omega)
            obtain ⟨c, z0, z1⟩ := hc k hlt
            have c0 := (hB.cell (p := ⟨b, off + k, none⟩) hb).trans c
            clear hc c
            go_wp2_with (at_builtin; refine wpList_append_fits _ rfl _ _ 22 rfl w'.heap.size 5 i0 1 Try.underlying22 hi hz1 w'.heap.size (4 + k) (4 + len) _ rfl (hown.alloc _) ⟨_, 0, none⟩ 1 1 [.int .u8 (Z k)] rfl rfl (cell_one_new _ _ _) (by intro u hu; simp at hu; subst hu; rfl) (by omega) ?_; intro w3 hown3 hgrow3)
            have hB3 : Below w'.heap.size w' w3 := (hB.alloc hB.size _).grown hgrow3 (by have := hB.size; simp; omega) (fun k e => by injection e with e; omega)
            rw [← joint_tail E Z k, ← cells8_succ] at hown3
            go_roundw
            case rel => exact ⟨k + 1, by omega, rfl, by go_num, hown3, hB3⟩
            case measure => simp [intOf]; omega
          · have e : k = len := by omega
            subst e
            have hF : ∀ i, i < 4 + k → 0 ≤ joint E Z i ∧ joint E Z i ≤ 255 := by
              intro i hi
              by_cases h : i < 4
              · unfold joint
                rw [if_pos h]
                exact (HE.out i h).2
              · obtain ⟨b, off, _, _, hc⟩ := hr (by omega)
                unfold joint
                rw [if_neg h]
                exact (hc (i - 4) (by omega)).2
            have hrow : Row8 wr (some ⟨w'.heap.size, 0, none⟩) (4 + k) (joint E Z) := by
              intro _
              refine ⟨w'.heap.size, 0, rfl, ?_, fun i hi => ⟨?_, hF i hi⟩⟩
              · have := hown.cellAt 0 (by omega)
                rw [cells8_at _ _ 0 (by omega)] at this
                exact block_lt_of_cell this
              · rw [Nat.zero_add, hown.cellAt i (by omega)]
                exact cells8_at _ _ i hi
            have hQ4 : quadTo (joint E Z) 4 = n := quad_back _ hn0 hn1 (fun j hj => by have := (HE.out j hj).1; unfold joint; rw [if_pos hj]; exact this)
            have hA4 : ∀ j, j < 4 → 0 ≤ hx (joint E Z j) := fun j hj => by
              have := (HE.out j hj).1
              unfold joint
              rw [if_pos hj, this]
              omega
            go_wp2_with fail
            refine (zzHexQuad_any _ (4 + k) (4 + k) (joint E Z) _ (Nat.le_refl _) (by unfold maxLen; omega) hrow).mono ?_
            rintro e w4 ⟨hq, hw4⟩
            subst hw4
            rcases hq with ⟨_, _, rfl⟩ | ⟨hbad, _⟩
            · rw [hQ4]
              clear hQ4 hA4 hrow hF hown hr HE
              go_wp2
              go_ret
              exact ⟨rfl, hB⟩
            · rcases hbad with h | ⟨j, hj, h⟩
              · omega
              · have := hA4 j hj
                omega

end Go.Proofs.Qxb6602464a
