/-
  Seat b6602464a. The law 'FnHexQuadMatchesPositionalModel', walked out of its callees' contracts.
-/
import Derived.Test.Qxb6602464aWb
import Derived.Laws.CopyOwn
namespace Go.Proofs.Qxb6602464a
open Go.RowKit

set_option maxHeartbeats 400000 in
theorem bytes8 (a : Option Addr) (len cap : Nat) (w : World) (hl : len ≤ maxLen) :
    Calls Try.prog 8 #[.slice a len cap] w fun e w' => e = .returned (.bool (decide ((len : Int) ≤ 1048576))) ∧ w' = w := by
  unfold maxLen at hl
  by_cases h1 : (1048576 : Int) < len
  · go_enter Try.func8, Try.ntmps8
    go_wp2
    go_ret
    exact ⟨ret_bool (by simp; omega), rfl⟩
  · go_enter Try.func8, Try.ntmps8
    go_wp2
    go_ret
    exact ⟨ret_bool (by simp), rfl⟩

theorem hexVal_no (c : Int) (w : World) (h : hx c = -1) : Calls Try.prog 10 #[.int .u8 c] w fun e w' => e = .returned (.tuple #[.int .i32 0, .bool false]) ∧ w' = w := by
  refine (hexVal_any c w).mono ?_
  rintro e w' ⟨⟨_, rfl⟩ | ⟨h2, _⟩, rfl⟩
  · exact ⟨rfl, rfl⟩
  · omega

theorem hexVal_yes (c : Int) (w : World) (h : 0 ≤ hx c) : Calls Try.prog 10 #[.int .u8 c] w fun e w' => e = .returned (.tuple #[.int .i32 (hx c), .bool true]) ∧ w' = w := by
  refine (hexVal_any c w).mono ?_
  rintro e w' ⟨⟨h2, _⟩ | ⟨h2, rfl⟩, rfl⟩
  · omega
  · exact ⟨rfl, rfl⟩

def wt : Nat → Int
  | 0 => 4096
  | 1 => 256
  | 2 => 16
  | _ => 1

/-- The sum of the first k digits, each times its weight. -/
def valTo (Z : Nat → Int) : Nat → Int
  | 0 => 0
  | k + 1 => valTo Z k + hx (Z k) * wt k

theorem quad_val (Z : Nat → Int) : quadTo Z 4 = valTo Z 4 := by simp [quadTo, valTo, wt]; omega

theorem val4 (Z : Nat → Int) : valTo Z 3 + hx (Z 3) = valTo Z 4 := by
  show _ = valTo Z 3 + hx (Z 3) * 1
  omega

theorem valTo_bd (Z : Nat → Int) (k : Nat) (h : ∀ j, j < k → 0 ≤ hx (Z j)) (hk : k ≤ 4) : 0 ≤ valTo Z k ∧ valTo Z k ≤ 65535 := by
  have h0 := hx_lt (Z 0)
  have h1 := hx_lt (Z 1)
  have h2 := hx_lt (Z 2)
  have h3 := hx_lt (Z 3)
  match k, hk with
  | 0, _ => simp [valTo]
  | 1, _ => have := h 0 (by omega); simp [valTo, wt]; omega
  | 2, _ => have := h 0 (by omega); have := h 1 (by omega); simp [valTo, wt]; omega
  | 3, _ => have := h 0 (by omega); have := h 1 (by omega); have := h 2 (by omega); simp [valTo, wt]; omega
  | 4, _ => have := h 0 (by omega); have := h 1 (by omega); have := h 2 (by omega); have := h 3 (by omega); simp [valTo, wt]; omega

theorem info5 : (Try.prog.info? 5).map (fun i => (i.zero, i.size, i.bytes)) = some (some (.int .u8 0), 1, 1) := by kernel_rfl
theorem size5 : (Try.prog.info? 5).map (·.size) = some 1 := by kernel_rfl

theorem make8 (len : Nat) (hl : len ≤ 1048576) : ∃ C : List Value, C.length = len ∧ ∀ w, (Instr.makeSlice 22 (.int .i64 (len : Int)) (.int .i64 (len : Int))).run Try.prog w = .ok (.slice (some ⟨w.heap.size, 0, none⟩) len len) (w.alloc (.cells C.toArray 5)) := by
  obtain ⟨i0, hi, hz0, hz1, hz2⟩ := info_parts info5
  refine ⟨(madeCells (Value.int .u8 0).cells len).toList, by simp [size_madeCells], fun w => ?_⟩
  have := run_make (P := Try.prog) w 22 5 i0 (.int .u8 0) Try.underlying22 hi hz0 .i64 .i64 len len (by omega) (by omega) (by rw [hz2]; omega) (by omega)
  rw [hz1] at this
  simpa using this

theorem row_of_block {w : World} {g len : Nat} {Z : Nat → Int} {L : List Value} (hg : w.heap[g]? = some (.cells L.toArray 5 (0, 0))) (hL : ∀ i, i < len → L[i]? = some (.int .u8 (Z i))) (hz : ∀ i, i < len → 0 ≤ Z i ∧ Z i ≤ 255) :
    Row8 w (some ⟨g, 0, none⟩) len Z := by
  intro _
  refine ⟨g, 0, rfl, (Array.getElem?_eq_some_iff.1 hg).1, fun i hi => ⟨?_, hz i hi⟩⟩
  rw [cell_of_row w g _ _ 5 _ hg]
  simpa using hL i hi

/-- The bytes of a slice, as the list of its cells' values. -/
def cellsOf8 (Z : Nat → Int) (len : Nat) : List Value := (List.range len).map fun i => .int .u8 (Z i)

theorem len8 (Z : Nat → Int) (len : Nat) : (cellsOf8 Z len).length = len := by simp [cellsOf8]
theorem at8 (Z : Nat → Int) (len i : Nat) (h : i < len) : (cellsOf8 Z len)[i]? = some (.int .u8 (Z i)) := by simp [cellsOf8, h]
theorem one8 (Z : Nat → Int) (len : Nat) : ∀ v ∈ cellsOf8 Z len, v.oneCell' = true := by
  intro v hv
  obtain ⟨i, _, rfl⟩ := List.mem_map.1 hv
  rfl

theorem src8 {w : World} {a : Addr} {len : Nat} {Z : Nat → Int} (hr : Row8 w (some a) len Z) (o : Obj) (g : Nat) :
    0 < (cellsOf8 Z len).length → some (⟨g, 0, none⟩ : Addr) = some ⟨g, 0, none⟩ ∧ ∃ ad, some a = some ad ∧ ∀ j v, (cellsOf8 Z len)[j]? = some v → (w.alloc o).cell? (ad.add j) = some v := by
  intro hp
  rw [len8] at hp
  obtain ⟨b, off, ha, hb, hc⟩ := hr hp
  injection ha with ha
  subst ha
  refine ⟨rfl, _, rfl, fun j v hv => ?_⟩
  have hj : j < len := by
    have := (List.getElem?_eq_some_iff.1 hv).1
    rwa [len8] at this
  rw [at8 Z len j hj] at hv
  injection hv with hv
  subst hv
  rw [Go.WideShapes.add_plain, World.cell?_of_block (w := w) (Below.heap_alloc w o b hb)]
  exact (hc j hj).1

theorem copy8 {w : World} {a : Addr} {len cap : Nat} {Z : Nat → Int} (hr : Row8 w (some a) len Z) (C : List Value) (hC : C.length = len) :
    ∃ w1, (Builtin.copy_ #[22, 22] 3 #[.slice (some ⟨w.heap.size, 0, none⟩) len len, .slice (some a) len cap]).run Try.prog (w.alloc (.cells C.toArray 5)) = .ok (.int .i64 len) w1 ∧
      w1.heap[w.heap.size]? = some (.cells (cellsOf8 Z len).toArray 5 (0, 0)) ∧ Below w.heap.size w w1 := by
  by_cases h0 : len = 0
  · subst h0
    refine ⟨_, run_copy_none (P := Try.prog) _ 22 22 3 5 _ _ _ _ _ _ Try.underlying22 size5 rfl, ?_, (Below.refl _ _).alloc (Nat.le_refl _) _⟩
    rw [List.eq_nil_of_length_eq_zero hC, List.eq_nil_of_length_eq_zero (len8 Z 0)]
    exact heap_alloc_new _ _
  · obtain ⟨_, ad, he, hsrc⟩ := src8 hr (.cells C.toArray 5) w.heap.size (by rw [len8]; omega)
    injection he with he
    subst he
    have hrun := run_copy_row (P := Try.prog) (w.alloc (.cells C.toArray 5)) 22 22 3 5 w.heap.size 0 len len a len cap C.toArray 5 (cellsOf8 Z len) Try.underlying22 size5 (heap_alloc_new _ _) (by rw [len8]; simp) hsrc (by rw [len8]; simp; omega) (one8 Z len)
    rw [len8] at hrun
    have e : (C.toArray.toList.take 0 ++ cellsOf8 Z len ++ C.toArray.toList.drop (0 + len)).toArray = (cellsOf8 Z len).toArray := by
      rw [List.drop_eq_nil_of_le (by simp; omega)]
      simp
    rw [e] at hrun
    exact ⟨_, hrun, setRow_heap _ _ _ _ 5 _ (heap_alloc_new _ _), below_setRow ((Below.refl _ _).alloc (Nat.le_refl _) _) (Nat.le_refl _) _⟩

set_option maxHeartbeats 1000000 in
theorem lawQuad (a : Option Addr) (len cap : Nat) (Z : Nat → Int) (w : World) (hl : len ≤ cap) (hm : cap ≤ maxLen) (hn : a = none → len = 0) (hr : Row8 w a len Z) :
    Calls Try.prog 3 #[.slice a len cap] w fun e w' => e = .returned (.bool true) ∧ Below w.heap.size w w' := by
  have hm' := hm
  unfold maxLen at hm'
  by_cases h1 : (1048576 : Int) < len
  · have hd : decide ((len : Int) ≤ 1048576) = false := by simp; omega
    go_enter Try.func3, Try.ntmps3
    go_wp2_with (go_at_call 8; refine (bytes8 a len cap _ (by omega)).mono ?_; rintro e w' ⟨rfl, rfl⟩)
    go_ret
    exact ⟨rfl, Below.refl _ _⟩
  · have hd : decide ((len : Int) ≤ 1048576) = true := by simp; omega
    have hd' : decide ((1048576 : Int) < len) = false := by simpa using h1
    cases a with
    | none =>
      obtain rfl := hn rfl
      have hq := fun w => run_neq_slice_nil_any (P := Try.prog) w 22 5 none 0 cap 0 0 Try.underlying22
      go_enter Try.func3, Try.ntmps3
      go_wp2_with (go_at_call 8; refine (bytes8 none 0 cap _ (by omega)).mono ?_; rintro e w' ⟨rfl, rfl⟩)
      refine (zzHexQuad_any none 0 cap Z _ hl hm hr).mono ?_
      rintro e w' ⟨⟨h4, _⟩ | ⟨_, rfl⟩, rfl⟩
      · omega
      · go_wp2
        go_ret
        exact ⟨rfl, Below.refl _ _⟩
    | some a =>
      have hq := fun w => run_neq_slice_nil_any (P := Try.prog) w 22 5 (some a) len cap 0 0 Try.underlying22
      obtain ⟨C, hC, hmk⟩ := make8 len (by omega)
      have HZ : Hid (∀ i, i < len → 0 ≤ Z i ∧ Z i ≤ 255) := fun i hi => by obtain ⟨_, _, _, _, hc⟩ := hr (by omega); exact (hc i hi).2
      go_enter Try.func3, Try.ntmps3
      obtain ⟨w1, hcp, hg1, hB1⟩ := copy8 (cap := cap) hr C hC
      have H1 : Hid (w1.heap[w.heap.size]? = some (.cells (cellsOf8 Z len).toArray 5 (0, 0))) := hg1
      clear hg1
      go_wp2_with (go_at_call 8; refine (bytes8 _ len cap _ (by omega)).mono ?_; rintro e w' ⟨rfl, hww⟩; subst hww)
      have hr1 : Row8 w1 (some ⟨w'.heap.size, 0, none⟩) len Z := row_of_block H1 (fun i hi => at8 Z len i hi) HZ
      refine (zzHexQuad_any _ len len Z _ (Nat.le_refl _) (by omega) hr1).mono ?_
      clear hcp hmk hq H1 hr
      rintro e w'' ⟨hQ, hww⟩
      subst hww
      by_cases h4 : (4 : Int) ≤ len
      · obtain ⟨b, off, hbo, hb, hc⟩ := hr1 (by omega)
        injection hbo with hbo
        injection hbo with e1 e2 _
        subst e1 e2
        have HC : Hid (∀ i, i < len → w''.cell? ⟨w'.heap.size, 0 + i, none⟩ = some (.int .u8 (Z i)) ∧ 0 ≤ Z i ∧ Z i ≤ 255) := hc
        clear hc hr1
        rcases hQ with ⟨_, hall, rfl⟩ | ⟨hbad, rfl⟩
        · rw [quad_val]
          have HA : Hid (∀ j, j < 4 → 0 ≤ hx (Z j)) := hall
          clear hall
          go_wp2
          go_loop [6, 7, 9] (fun t o i => ∃ k : Nat, k ≤ 4 ∧ t = .int .i32 (valTo Z k) ∧ o = .bool true ∧ i = .int .i64 k) (fun _ _ i => 4 - (intOf i).toNat)
          case atStart => exact ⟨0, Nat.zero_le _, rfl, rfl, rfl⟩
          case round =>
            obtain ⟨k, hk, rfl, rfl, rfl⟩ := hrel
            by_cases hlt : k < 4
            · have x0 := HA.out k hlt
              obtain ⟨c0, z0, z1⟩ := HC.out k (by omega)
              rw [Nat.zero_add] at c0
              have hv := valTo_bd Z k (fun j hj => HA.out j (by omega)) (by omega)
              obtain ⟨v0, v1⟩ := hv
              have x1 := hx_lt (Z k)
              rcases (show k = 0 ∨ k = 1 ∨ k = 2 ∨ k = 3 by omega) with rfl | rfl | rfl | rfl
              · go_wp2_with (go_at_call 10; refine (hexVal_yes _ _ x0).mono ?_; rintro e w3 ⟨rfl, hw3⟩; subst hw3)
                go_round
                case rel => exact ⟨1, by decide, rfl, rfl, rfl⟩
                case measure => decide
              · go_wp2_with (go_at_call 10; refine (hexVal_yes _ _ x0).mono ?_; rintro e w3 ⟨rfl, hw3⟩; subst hw3)
                go_round
                case rel => exact ⟨2, by decide, rfl, rfl, rfl⟩
                case measure => decide
              · go_wp2_with (go_at_call 10; refine (hexVal_yes _ _ x0).mono ?_; rintro e w3 ⟨rfl, hw3⟩; subst hw3)
                go_round
                case rel => exact ⟨3, by decide, rfl, rfl, rfl⟩
                case measure => decide
              · go_wp2_with (go_at_call 10; refine (hexVal_yes _ _ x0).mono ?_; rintro e w3 ⟨rfl, hw3⟩; subst hw3)
                go_round
                case rel => exact ⟨4, by decide, int_eq (val4 Z), rfl, rfl⟩
                case measure => decide
            · have e4 : k = 4 := by omega
              subst e4
              go_wp2
              go_ret
              exact ⟨rfl, hB1.alloc hB1.size _⟩
        · have HB : Hid (len < 4 ∨ ∃ j, j < 4 ∧ hx (Z j) = -1) := hbad
          clear hbad
          go_wp2
          go_loop [6, 7, 9] (fun t o i => ∃ k : Nat, k ≤ 4 ∧ t = .int .i32 (valTo Z k) ∧ o = .bool true ∧ i = .int .i64 k ∧ Hid (∀ j, j < k → 0 ≤ hx (Z j))) (fun _ _ i => 4 - (intOf i).toNat)
          case atStart => exact ⟨0, Nat.zero_le _, rfl, rfl, rfl, fun j hj => absurd hj (by omega)⟩
          case round =>
            obtain ⟨k, hk, rfl, rfl, rfl, hN⟩ := hrel
            by_cases hlt : k < 4
            · by_cases hbk : hx (Z k) = -1
              · obtain ⟨c0, z0, z1⟩ := HC.out k (by omega)
                rw [Nat.zero_add] at c0
                have HK : Hid (hx (Z k) = -1) := hbk
                clear hbk
                have i1 : (k : Int) < 4 := by omega
                go_wp2_with (go_at_call 10; refine (hexVal_no _ _ HK).mono ?_; rintro e w3 ⟨rfl, hw3⟩; subst hw3)
                go_ret
                exact ⟨rfl, hB1.alloc hB1.size _⟩
              · have x0 : 0 ≤ hx (Z k) := by have := hx_ge (Z k); omega
                clear hbk
                obtain ⟨c0, z0, z1⟩ := HC.out k (by omega)
                rw [Nat.zero_add] at c0
                have hv := valTo_bd Z k hN.out (by omega)
                obtain ⟨v0, v1⟩ := hv
                have x1 := hx_lt (Z k)
                rcases (show k = 0 ∨ k = 1 ∨ k = 2 ∨ k = 3 by omega) with rfl | rfl | rfl | rfl
                · go_wp2_with (go_at_call 10; refine (hexVal_yes _ _ x0).mono ?_; rintro e w3 ⟨rfl, hw3⟩; subst hw3)
                  go_round
                  case rel => exact ⟨1, by decide, rfl, rfl, rfl, fun j hj => if e : j < 0 then hN.out j e else by rw [show j = 0 from by omega]; exact x0⟩
                  case measure => decide
                · go_wp2_with (go_at_call 10; refine (hexVal_yes _ _ x0).mono ?_; rintro e w3 ⟨rfl, hw3⟩; subst hw3)
                  go_round
                  case rel => exact ⟨2, by decide, rfl, rfl, rfl, fun j hj => if e : j < 1 then hN.out j e else by rw [show j = 1 from by omega]; exact x0⟩
                  case measure => decide
                · go_wp2_with (go_at_call 10; refine (hexVal_yes _ _ x0).mono ?_; rintro e w3 ⟨rfl, hw3⟩; subst hw3)
                  go_round
                  case rel => exact ⟨3, by decide, rfl, rfl, rfl, fun j hj => if e : j < 2 then hN.out j e else by rw [show j = 2 from by omega]; exact x0⟩
                  case measure => decide
                · go_wp2_with (go_at_call 10; refine (hexVal_yes _ _ x0).mono ?_; rintro e w3 ⟨rfl, hw3⟩; subst hw3)
                  go_round
                  case rel => exact ⟨4, by decide, int_eq (val4 Z), rfl, rfl, fun j hj => if e : j < 3 then hN.out j e else by rw [show j = 3 from by omega]; exact x0⟩
                  case measure => decide
            · rcases HB.out with h | ⟨j, hj, h⟩
              · omega
              · have := hN.out j (by omega)
                omega
      · have hd4 : decide ((4 : Int) ≤ len) = false := by simpa using h4
        rcases hQ with ⟨hq4, _⟩ | ⟨_, rfl⟩
        · omega
        · go_wp2
          go_ret
          exact ⟨rfl, hB1⟩
end Go.Proofs.Qxb6602464a
