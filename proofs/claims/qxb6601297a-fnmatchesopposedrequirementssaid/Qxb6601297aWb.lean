/-
  Seat b6601297a. 'labelMapKIb1': a map is made of the labels; at each key it answers one value, and goes on answering it while its block stands.
-/
import Derived.Test.Qxb6601297aKit
import Derived.RegionTactic
namespace Go.Proofs.Qxb6601297a
open Go.RowKit Go.WideMaps Go.Maps

theorem make_hint (n : Int) (w : World) : (Instr.makeMap 28 (some (.int .i64 n))).run Try.prog w = .ok (.map (some w.heap.size)) (w.alloc (.map #[] 0)) := by
  simp [Instr.makeMap, run_underlying Try.underlying28, asInt, newObj]
  rfl

def MapB (w : World) (key : ByteArray) (e : Ending) (w' : World) : Prop :=
  Below w.heap.size w w' ∧ ∃ mv v has, e = .returned mv ∧ Looks w' w'.heap.size mv key v has

set_option maxHeartbeats 1000000 in
theorem labelMap_any (a : Option Addr) (len cap : Nat) (L : Nat → Lb) (key : ByteArray) (w : World) (hl : len ≤ 4096) (hn : a = none → len = 0) (hk : key.size ≤ maxLen) (ht : Tab w a len L) :
    Calls Try.prog 8 #[.slice a len cap] w fun e w' => MapB w key e w' := by
  cases a with
  | none =>
    obtain rfl := hn rfl
    have hq := fun w => Lib.run_eql_slice_nil (P := Try.prog) w 23 37 none 0 cap 0 0 Try.underlying23
    go_enter Try.func8, Try.ntmps8
    go_wp2
    go_ret
    exact ⟨Below.refl _ _, _, _, _, rfl, looks_nil _ _ key hk⟩
  | some a =>
    clear hn
    have hq := fun w => Lib.run_eql_slice_nil (P := Try.prog) w 23 37 (some a) len cap 0 0 Try.underlying23
    have hmk := make_hint (len : Int)
    go_enter Try.func8, Try.ntmps8
    go_wp2
    go_loopw [4] (fun i wr => ∃ (j : Nat) (D : DataW Unit), j ≤ len ∧ i = .int .i64 j ∧ wr.ownsMap Try.prog 9 (plainElem Try.prog 9) w.heap.size j D ∧ Below w.heap.size w wr) (fun i _ => len - (intOf i).toNat)
    case atStart => exact ⟨0, _, Nat.zero_le _, rfl, World.ownsMap_made _ _ _ _, (Below.refl _ _).alloc (Nat.le_refl _) _⟩
    case round =>
      obtain ⟨j, D, hj, rfl, hown, hB⟩ := hrel
      clear hmk hq
      by_cases hlt : j < len
      · obtain ⟨b, off, ha, hb, hc⟩ := ht.later hB (Nat.le_refl _) (by omega)
        injection ha with ha
        subst ha
        obtain ⟨c0, c1, z0, z1⟩ := hc j hlt
        clear hc ht
        obtain ⟨w1, hup, hown1, hg1⟩ := hown.drew.update (t := 28) (e := 9) law9 Try.underlying28 (by unfold maxLen; omega) (keyOf_string_mk Try.underlying9 z0) (plainElem_string Try.underlying9 z1)
        have i0 : (0 : Int) ≤ (j : Int) := by omega
        have i1 : (j : Int) < (len : Int) := by omega
        go_wp2
        go_region
        all_goals
          go_wp2
          go_roundw
          case rel => exact ⟨j + 1, _, by omega, by go_num, hown1, (hB.drew).grown hg1 hB.size (fun k e => by injection e with e; omega)⟩
          case measure => simp [intOf]; omega
      · go_wp2
        go_ret
        obtain ⟨v, has, hL⟩ := looks_own hown key hk
        exact ⟨hB, _, v, has, rfl, hL.later (Below.refl _ _) hown.lt⟩

end Go.Proofs.Qxb6601297a
