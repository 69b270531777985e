/-
  THE CONTRACT OF zzClonePairs.
-/
import Derived.Test.Qxb6612831aLaw3
import Derived.BigQuiet
namespace Go.Proofs.Qxb6612831a.Uf
open Go.RowKit

/-- Block g holds the pairs, their numbers one behind the other: Q. -/
def PRow (w : World) (g : Nat) (Q : List Nat) : Prop := w.heap[g]? = some (.cells (Q.map fun (s : Nat) => Value.int .i32 (s : Int)).toArray 28 (0, 0))
theorem PRow.out {w : World} {g : Nat} {Q : List Nat} (h : PRow w g Q) : w.heap[g]? = some (.cells (Q.map fun (s : Nat) => Value.int .i32 (s : Int)).toArray 28 (0, 0)) := h
theorem PRow.cell {w : World} {g : Nat} {S : List Nat} (h : PRow w g S) (i : Nat) (hi : i < S.length) : w.cell? ⟨g, i, none⟩ = some (.int .i32 (S.getD i 0 : Nat)) := by
  simp [World.cell?, h.out, hi, List.getD]
theorem PRow.free {w : World} {g : Nat} {S : List Nat} (h : PRow w g S) (i : Nat) : w.frozen? ⟨g, i, none⟩ = false := by simp [World.frozen?, h.out]
theorem PRow.set {w : World} {g : Nat} {S : List Nat} (h : PRow w g S) (j n : Nat) : PRow (w.setCell ⟨g, j, none⟩ (.int .i32 n)) g (S.set j n) := by
  show _ = _
  simp [World.setCell, Array.getElem?_modify, h.out, List.map_set]
theorem PRow.lt {w : World} {g : Nat} {S : List Nat} (h : PRow w g S) : g < w.heap.size := (Array.getElem?_eq_some_iff.1 h.out).1

theorem info28 : (Try.prog.info? 28).map (fun i => (i.zero, i.size, i.bytes)) = some (some (.agg #[.int .i32 0, .int .i32 0]), 2, 8) := by kernel_rfl
theorem make26 (p : Nat) (hp : p ≤ 4096) : ∃ Z : Array Value, Hid (Z = ((List.replicate (p * 2) 0).map fun (s : Nat) => Value.int .i32 (s : Int)).toArray) ∧
    ∀ w, (Instr.makeSlice 26 (.int .i64 p) (.int .i64 p)).run Try.prog w = .ok (.slice (some ⟨w.heap.size, 0, none⟩) p p) (w.alloc (.cells Z 28)) := by
  obtain ⟨i, hi, hz0, hz1, hz2⟩ := info_parts info28
  refine ⟨_, rfl, fun w => ?_⟩
  rw [run_make (P := Try.prog) w 26 28 i _ Try.underlying26 hi hz0 .i64 .i64 p p (by omega) (by omega) (by rw [hz2]; omega) (by omega), hz1]
  simp only [Int.toNat_natCast]
  congr 3
  apply Array.ext
  · simp [size_madeCells]
  · intro i h1 h2
    simp [madeCells, Value.cells]
    rcases Nat.mod_two_eq_zero_or_one i with h | h <;> rw [h] <;> rfl

theorem newPairs (w : World) {Z : Array Value} {p : Nat} (hZ : Hid (Z = ((List.replicate p 0).map fun (s : Nat) => Value.int .i32 (s : Int)).toArray)) : PRow (w.alloc (.cells Z 28)) w.heap.size (List.replicate p 0) := by
  show (w.heap.push _)[w.heap.size]? = _
  rw [hZ.out]; simp

set_option maxHeartbeats 1000000 in
theorem clone11 (b o m c : Nat) (Q : List Nat) (w : World) (hQ : Lies w b o (m * 2) Q) (hm : m ≤ 4096) :
    Calls Try.prog 11 #[.slice (some ⟨b, o, none⟩) m c] w fun e w' => e = .returned (.slice (some ⟨w.heap.size, 0, none⟩) m m) ∧ PRow w' w.heap.size Q ∧ Below w.heap.size w w' := by
  have ne : ∀ (w : World) (a : Option Addr) (n c n' c' : Nat), (binOp .eql 26 (.slice a n c) (.slice none n' c')).run Try.prog w = .ok (.bool a.isNone) w := fun w a n c n' c' => Lib.run_eql_slice_nil w _ _ a n c n' c' Try.underlying26
  obtain ⟨Z, hZ, mk⟩ := make26 m hm
  have h0 := newPairs w hZ
  go_enter Try.func11, Try.ntmps11
  go_wp2
  clear ne mk hZ
  go_loopw [4] (fun v wr => ∃ (k : Nat) (V : List Nat), k ≤ m ∧ v = .int .i64 (k : Int) ∧ PRow wr w.heap.size V ∧ Hid (V.length = m * 2 ∧ ∀ j, j < k * 2 → V.getD j 0 = Q.getD j 0) ∧ But w.heap.size (w.alloc (.cells Z 28)) wr) (fun v _ => m - (intOf v).toNat)
  case atStart => exact ⟨0, _, Nat.zero_le _, rfl, h0, ⟨by simp, fun j hj => by omega⟩, But.refl _ _⟩
  case round =>
    obtain ⟨k, V, hk, rfl, hV, hall, hbut⟩ := hrel
    by_cases hlt : k < m
    · have hlen := hall.out.1
      have c0 := hQ.cell (k * 2) (by omega)
      have c1 := hQ.cell (k * 2 + 1) (by omega)
      rw [← (below_new hbut).cell (p := ⟨b, o + k * 2, none⟩) hQ.lt] at c0
      rw [← (below_new hbut).cell (p := ⟨b, o + (k * 2 + 1), none⟩) hQ.lt] at c1
      obtain ⟨u, hu⟩ : ∃ u, u = Q.getD (k * 2) 0 := ⟨_, rfl⟩
      obtain ⟨t, ht⟩ : ∃ t, t = Q.getD (k * 2 + 1) 0 := ⟨_, rfl⟩
      rw [← hu] at c0
      rw [← ht] at c1
      have d0 := hV.cell (k * 2) (by omega)
      have d1 := hV.cell (k * 2 + 1) (by omega)
      have f0 := hV.free (k * 2)
      have f1 := hV.free (k * 2 + 1)
      rw [← Nat.add_assoc] at c1
      have hV2 := (hV.set (k * 2) u).set (k * 2 + 1) t
      have hall2 : Hid (((V.set (k * 2) u).set (k * 2 + 1) t).length = m * 2 ∧ ∀ j, j < (k + 1) * 2 → ((V.set (k * 2) u).set (k * 2 + 1) t).getD j 0 = Q.getD j 0) := by
        refine ⟨by simp [hlen], fun j hj => ?_⟩
        rw [getD_set _ _ _ j (by simp; omega), getD_set V _ _ j (by omega)]
        by_cases e1 : j = k * 2 + 1
        · rw [if_pos e1, e1, ht]
        · rw [if_neg e1]
          by_cases e2 : j = k * 2
          · rw [if_pos e2, e2, hu]
          · rw [if_neg e2]; exact hall.out.2 j (by omega)
      clear hlen hu ht
      go_wp2
      go_roundw
      case rel => exact ⟨k + 1, _, by omega, by go_num, hV2, hall2, (hbut.setCell _ _).setCell _ _⟩
      case measure => simp [intOf]; omega
    · obtain rfl : k = m := by omega
      have hVU : V = Q := ext_of (by rw [hall.out.1, hQ.len]) (fun j hj => hall.out.2 j (by have := hall.out.1; omega))
      subst hVU
      clear h0
      go_wp2
      go_ret
      exact ⟨rfl, hV, below_new hbut⟩

set_option maxHeartbeats 1000000 in
theorem clone11_zero (p : Option Addr) (c : Nat) (w : World) :
    Calls Try.prog 11 #[.slice p 0 c] w fun e w' => (∃ p', e = .returned (.slice p' 0 0)) ∧ Below w.heap.size w w' := by
  have ne : ∀ (w : World) (a : Option Addr) (n c n' c' : Nat), (binOp .eql 26 (.slice a n c) (.slice none n' c')).run Try.prog w = .ok (.bool a.isNone) w := fun w a n c n' c' => Lib.run_eql_slice_nil w _ _ a n c n' c' Try.underlying26
  obtain ⟨Z, hZ, mk⟩ := make26 0 (by omega)
  rw [show ((0 : Nat) : Int) = 0 from rfl] at mk
  cases p with
  | none =>
    go_enter Try.func11, Try.ntmps11
    go_wp2
    go_ret
    exact ⟨⟨_, rfl⟩, Below.refl _ _⟩
  | some x =>
    go_enter Try.func11, Try.ntmps11
    go_wp2
    refine wp_loop_rounds 1 ?_
    rw [rounds_succ]
    go_wp2
    go_ret
    exact ⟨⟨_, rfl⟩, (Below.refl _ _).alloc (Nat.le_refl _) _⟩

set_option maxHeartbeats 400000 in
theorem zz10 (p : Option Addr) (n : Int) (m c : Nat) (w : World) (hm : m ≤ maxLen) :
    Calls Try.prog 10 #[.int .i64 n, .slice p m c] w fun e w' => e = .returned (.bool (okLen m)) ∧ w = w' := by
  unfold maxLen at hm
  by_cases h1 : 1048576 < m
  all_goals
    go_enter Try.func10, Try.ntmps10
    go_wp2
    go_ret
    exact ⟨ret_bool (by simp [okLen]; omega), rfl⟩

set_option maxRecDepth 100000 in
set_option maxHeartbeats 1000000 in
theorem law4_early (p : Option Addr) (n : Int) (m c : Nat) (w : World) (hm : m ≤ maxLen) (h : 4096 < m ∨ n < 0 ∨ 4096 < n) :
    Calls Try.prog 4 #[.int .i64 n, .slice p m c] w fun e w' => e = .returned (.bool true) ∧ Below w.heap.size w w' := by
  have z := zz10 p n m c w hm
  unfold maxLen at hm
  cases hok : okLen m
  · rw [hok] at z
    go_enter Try.func4, Try.ntmps4
    go_wp2_with (go_at_call 10; refine z.mono ?_; rintro e w' ⟨rfl, rfl⟩)
    go_ret
    exact ⟨rfl, Below.refl _ _⟩
  · rw [hok] at z
    by_cases h2 : n < 0
    · go_enter Try.func4, Try.ntmps4
      go_wp2_with (go_at_call 10; refine z.mono ?_; rintro e w' ⟨rfl, rfl⟩)
      go_ret
      exact ⟨rfl, Below.refl _ _⟩
    by_cases h3 : 4096 < n
    · go_enter Try.func4, Try.ntmps4
      go_wp2_with (go_at_call 10; refine z.mono ?_; rintro e w' ⟨rfl, rfl⟩)
      go_ret
      exact ⟨rfl, Below.refl _ _⟩
    have h5 : 4096 < m := by omega
    go_enter Try.func4, Try.ntmps4
    go_wp2_with (go_at_call 10; refine z.mono ?_; rintro e w' ⟨rfl, rfl⟩)
    go_ret
    exact ⟨rfl, Below.refl _ _⟩
end Go.Proofs.Qxb6612831a.Uf
