/-
  A NEW ROW OF BYTES; THE CONTRACTS OF cloneBytes AND zzBytes_FnNextFixedKeyWords; a flipped word's bytes.
-/
import Derived.Test.Qxb6613005aDoorIs
import Derived.Deep.LoopGhost
namespace Go.Proofs.Qxb6613005aDoor.Kw
open Go.RowKit

/-- Block g holds the bytes U. -/
def BRow (w : World) (g : Nat) (U : List Nat) : Prop := w.heap[g]? = some (.cells (U.map fun (s : Nat) => Value.int .u8 (s : Int)).toArray 5 (0, 0))
theorem BRow.out {w : World} {g : Nat} {U : List Nat} (h : BRow w g U) : w.heap[g]? = some (.cells (U.map fun (s : Nat) => Value.int .u8 (s : Int)).toArray 5 (0, 0)) := h
theorem BRow.cell {w : World} {g : Nat} {S : List Nat} (h : BRow w g S) (i : Nat) (hi : i < S.length) : w.cell? ⟨g, i, none⟩ = some (.int .u8 (S.getD i 0 : Nat)) := by
  simp [World.cell?, h.out, hi, List.getD]
theorem BRow.free {w : World} {g : Nat} {S : List Nat} (h : BRow w g S) (i : Nat) : w.frozen? ⟨g, i, none⟩ = false := by simp [World.frozen?, h.out]
theorem BRow.set {w : World} {g : Nat} {S : List Nat} (h : BRow w g S) (j n : Nat) : BRow (w.setCell ⟨g, j, none⟩ (.int .u8 n)) g (S.set j n) := by
  show _ = _
  simp [World.setCell, Array.getElem?_modify, h.out, List.map_set]
theorem BRow.lt {w : World} {g : Nat} {S : List Nat} (h : BRow w g S) : g < w.heap.size := (Array.getElem?_eq_some_iff.1 h.out).1
theorem BRow.below {w w' : World} {g : Nat} {S : List Nat} (h : BRow w g S) {B : Nat} (hb : Below B w w') (hB : g < B) : BRow w' g S := by
  show _ = _
  rw [hb.block g hB]; exact h.out

/-- w' is w but for what lies in block g; no block has come or gone. -/
structure But (g : Nat) (w w' : World) : Prop where
  os : w'.os = w.os
  tape : w'.tape = w.tape
  output : w'.output = w.output
  size : w'.heap.size = w.heap.size
  block : ∀ k, k ≠ g → w'.heap[k]? = w.heap[k]?
theorem But.refl (g : Nat) (w : World) : But g w w := ⟨rfl, rfl, rfl, rfl, fun _ _ => rfl⟩
theorem But.setCell {g : Nat} {w w' : World} (h : But g w w') (i : Nat) (v : Value) : But g w (w'.setCell ⟨g, i, none⟩ v) :=
  ⟨h.os, h.tape, h.output, by simp [World.setCell, ← h.size], fun k hk => by rw [Below.heap_setCell _ _ _ _ hk]; exact h.block k hk⟩
theorem But.below {g B : Nat} {w w' : World} (h : But g w w') (hB : B ≤ g) : Below B w w' := ⟨h.os, h.tape, h.output, Nat.le_of_eq h.size.symm, fun k hk => h.block k (by omega)⟩

theorem getD_set (S : List Nat) (j n i : Nat) (hj : j < S.length) : (S.set j n).getD i 0 = if i = j then n else S.getD i 0 := by
  by_cases h : i = j
  · subst h; simp [List.getD, hj]
  · simp [List.getD, h, Ne.symm h]
theorem ext_of {xs ys : List Nat} (hl : xs.length = ys.length) (h : ∀ j, j < xs.length → xs.getD j 0 = ys.getD j 0) : xs = ys := by
  apply List.ext_getElem hl
  intro j h1 h2
  have := h j h1
  simpa [List.getD, h1, h2] using this
theorem below_new {w wr : World} {o : Obj} (h : But w.heap.size (w.alloc o) wr) : Below w.heap.size w wr := ((Below.refl _ _).alloc (Nat.le_refl _) o).trans (h.below (Nat.le_refl _))

theorem info5 : (Tryd.prog.info? 5).map (fun i => (i.zero, i.size, i.bytes)) = some (some (.int .u8 0), 1, 1) := by kernel_rfl
theorem make22 (p : Nat) (hp : p ≤ 1048576) : ∃ Z : Array Value, Hid (Z = ((List.replicate p 0).map fun (s : Nat) => Value.int .u8 (s : Int)).toArray) ∧
    ∀ w, (Instr.makeSlice 22 (.int .i64 p) (.int .i64 p)).run Tryd.prog w = .ok (.slice (some ⟨w.heap.size, 0, none⟩) p p) (w.alloc (.cells Z 5)) := by
  obtain ⟨i, hi, hz0, hz1, hz2⟩ := info_parts info5
  refine ⟨_, rfl, fun w => ?_⟩
  rw [run_make (P := Tryd.prog) w 22 5 i (.int .u8 0) Tryd.underlying22 hi hz0 .i64 .i64 p p (by omega) (by omega) (by rw [hz2]; omega) (by omega), hz1]
  simp only [Int.toNat_natCast, Nat.mul_one]
  congr 3
  apply Array.ext
  · simp [size_madeCells]
  · intro i h1 h2
    simp [madeCells, Value.cells, Nat.mod_one]
theorem newRow (w : World) {Z : Array Value} {p : Nat} (hZ : Hid (Z = ((List.replicate p 0).map fun (s : Nat) => Value.int .u8 (s : Int)).toArray)) : BRow (w.alloc (.cells Z 5)) w.heap.size (List.replicate p 0) := by
  show (w.heap.push _)[w.heap.size]? = _
  rw [hZ.out]; simp

set_option maxHeartbeats 1000000 in
theorem clone9 (b o n c : Nat) (U : List Nat) (w : World) (hl : b < w.heap.size) (hlen : Hid (U.length = n)) (hU : ∀ i, i < n → w.cell? ⟨b, o + i, none⟩ = some (.int .u8 (U.getD i 0 : Nat))) (hn : n ≤ 1048576) :
    Calls Tryd.prog 9 #[.slice (some ⟨b, o, none⟩) n c] w fun e w' => e = .returned (.slice (some ⟨w.heap.size, 0, none⟩) n n) ∧ BRow w' w.heap.size U ∧ Below w.heap.size w w' := by
  have ne : ∀ (w : World) (a : Option Addr) (n c n' c' : Nat), (binOp .eql 22 (.slice a n c) (.slice none n' c')).run Tryd.prog w = .ok (.bool a.isNone) w := fun w a n c n' c' => Lib.run_eql_slice_nil w _ _ a n c n' c' Tryd.underlying22
  obtain ⟨Z, hZ, mk⟩ := make22 n hn
  have h0 := newRow w hZ
  have HU := hide hU
  clear hU
  go_enter Tryd.func9, Tryd.ntmps9
  go_wp2
  clear ne mk hZ
  go_loopw [4] (fun v wr => ∃ (k : Nat) (V : List Nat), k ≤ n ∧ v = .int .i64 (k : Int) ∧ BRow wr w.heap.size V ∧ Hid (V.length = n ∧ ∀ j, j < k → V.getD j 0 = U.getD j 0) ∧ But w.heap.size (w.alloc (.cells Z 5)) wr) (fun v _ => n - (intOf v).toNat)
  case atStart => exact ⟨0, _, Nat.zero_le _, rfl, h0, ⟨by simp, fun j hj => by omega⟩, But.refl _ _⟩
  case round =>
    obtain ⟨k, V, hk, rfl, hV, hall, hbut⟩ := hrel
    by_cases hlt : k < n
    · have hlen := hall.out.1
      have c0 := unhide HU k hlt
      rw [← (below_new hbut).cell (p := ⟨b, o + k, none⟩) hl] at c0
      obtain ⟨u, hu⟩ : ∃ u, u = U.getD k 0 := ⟨_, rfl⟩
      rw [← hu] at c0
      have c1 := hV.cell k (by omega)
      have f1 := hV.free k
      have hV2 := hV.set k u
      have hall2 : Hid ((V.set k u).length = n ∧ ∀ j, j < k + 1 → (V.set k u).getD j 0 = U.getD j 0) := by
        refine ⟨by simp [hlen], fun j hj => ?_⟩
        rw [getD_set V k u j (by omega)]
        split
        · rename_i e; rw [e, hu]
        · exact hall.out.2 j (by omega)
      clear hu hlen
      go_wp2
      go_roundw
      case rel => exact ⟨k + 1, V.set k u, by omega, by go_num, hV2, hall2, hbut.setCell _ _⟩
      case measure => simp [intOf]; omega
    · obtain rfl : k = n := by omega
      have hVU : V = U := ext_of (by rw [hall.out.1, unhide hlen]) (fun j hj => hall.out.2 j (by have := hall.out.1; omega))
      subst hVU
      clear h0
      go_wp2
      go_ret
      exact ⟨rfl, hV, below_new hbut⟩

set_option maxHeartbeats 400000 in
theorem zz13 (p : Option Addr) (n c : Nat) (a1 a2 a3 a4 a5 a6 : Value) (w : World) (hn : n ≤ 9223372036854775807) :
    Calls Tryd.prog 13 #[.slice p n c, a1, a2, a3, a4, a5, a6] w fun e w' => e = .returned (.bool (decide (n ≤ 1048576))) ∧ w = w' := by
  by_cases h : n ≤ 1048576
  · rw [decide_eq_true h]
    have d1 : decide ((n : Int) > 1048576) = false := by simp; omega
    go_enter Tryd.func13, Tryd.ntmps13
    go_wp2
    go_ret
    exact ⟨rfl, rfl⟩
  · rw [decide_eq_false h]
    have d1 : decide ((n : Int) > 1048576) = true := by simp; omega
    go_enter Tryd.func13, Tryd.ntmps13
    go_wp2
    go_ret
    exact ⟨rfl, rfl⟩

theorem cat_q (y0 y1 y2 y3 y4 y5 y6 y7 : Nat) (h0 : y0 < 256) (h1 : y1 < 256) (h2 : y2 < 256) (h3 : y3 < 256) (h4 : y4 < 256) (h5 : y5 < 256) (h6 : y6 < 256) (h7 : y7 < 256) :
    cat y0 y1 y2 y3 y4 y5 y6 y7 / 72057594037927936 % 256 = y0 ∧ cat y0 y1 y2 y3 y4 y5 y6 y7 / 281474976710656 % 256 = y1 ∧ cat y0 y1 y2 y3 y4 y5 y6 y7 / 1099511627776 % 256 = y2 ∧ cat y0 y1 y2 y3 y4 y5 y6 y7 / 4294967296 % 256 = y3 ∧ cat y0 y1 y2 y3 y4 y5 y6 y7 / 16777216 % 256 = y4 ∧ cat y0 y1 y2 y3 y4 y5 y6 y7 / 65536 % 256 = y5 ∧ cat y0 y1 y2 y3 y4 y5 y6 y7 / 256 % 256 = y6 ∧ cat y0 y1 y2 y3 y4 y5 y6 y7 / 1 % 256 = y7 := by
  have q0 : cat y0 y1 y2 y3 y4 y5 y6 y7 / 72057594037927936 = y0 := by unfold cat; omega
  have q1 : cat y0 y1 y2 y3 y4 y5 y6 y7 / 281474976710656 = y0 * 256 + y1 := by unfold cat; omega
  have q2 : cat y0 y1 y2 y3 y4 y5 y6 y7 / 1099511627776 = y0 * 65536 + y1 * 256 + y2 := by unfold cat; omega
  have q3 : cat y0 y1 y2 y3 y4 y5 y6 y7 / 4294967296 = y0 * 16777216 + y1 * 65536 + y2 * 256 + y3 := by unfold cat; omega
  have q4 : cat y0 y1 y2 y3 y4 y5 y6 y7 / 16777216 = y0 * 4294967296 + y1 * 16777216 + y2 * 65536 + y3 * 256 + y4 := by unfold cat; omega
  have q5 : cat y0 y1 y2 y3 y4 y5 y6 y7 / 65536 = y0 * 1099511627776 + y1 * 4294967296 + y2 * 16777216 + y3 * 65536 + y4 * 256 + y5 := by unfold cat; omega
  have q6 : cat y0 y1 y2 y3 y4 y5 y6 y7 / 256 = y0 * 281474976710656 + y1 * 1099511627776 + y2 * 4294967296 + y3 * 16777216 + y4 * 65536 + y5 * 256 + y6 := by unfold cat; omega
  have q7 : cat y0 y1 y2 y3 y4 y5 y6 y7 / 1 = y0 * 72057594037927936 + y1 * 281474976710656 + y2 * 1099511627776 + y3 * 4294967296 + y4 * 16777216 + y5 * 65536 + y6 * 256 + y7 := by unfold cat; omega
  rw [q0, q1, q2, q3, q4, q5, q6, q7]
  clear q0 q1 q2 q3 q4 q5 q6 q7
  refine ⟨?_, ?_, ?_, ?_, ?_, ?_, ?_, ?_⟩ <;> omega
theorem flw_lt (flip : Nat) (xs : List Nat) (hb : Byt xs) : flw flip xs < 18446744073709551616 := by
  have a0 := fl_lt flip _ (hb 0); have a1 := fl_lt flip _ (hb 1); have a2 := fl_lt flip _ (hb 2); have a3 := fl_lt flip _ (hb 3)
  have a4 := fl_lt flip _ (hb 4); have a5 := fl_lt flip _ (hb 5); have a6 := fl_lt flip _ (hb 6); have a7 := fl_lt flip _ (hb 7)
  unfold flw cat
  omega
theorem flw_q (flip F : Nat) (xs : List Nat) (hF : Flips flip F) (hb : Byt xs) (k : Nat) (hk : k < 8) :
    xs.getD k 0 < 256 ∧ IntKind.u8.wrap (((flw flip xs : Nat) : Int) / ((2 ^ (56 - 8 * k) : Nat) : Int)) = bits BinOp.xor IntKind.u8 ((xs.getD k 0 : Nat) : Int) (flip : Int) := by
  refine ⟨hb k, ?_⟩
  rw [fl_byte flip F _ hF (hb k), IntKind.wrap_u8, ← Int.natCast_ediv, show (256 : Int) = ((256 : Nat) : Int) from rfl, ← Int.natCast_emod]
  congr 1
  obtain ⟨q0, q1, q2, q3, q4, q5, q6, q7⟩ := cat_q _ _ _ _ _ _ _ _ (fl_lt flip _ (hb 0)) (fl_lt flip _ (hb 1)) (fl_lt flip _ (hb 2)) (fl_lt flip _ (hb 3)) (fl_lt flip _ (hb 4)) (fl_lt flip _ (hb 5)) (fl_lt flip _ (hb 6)) (fl_lt flip _ (hb 7))
  have hcase : k = 0 ∨ k = 1 ∨ k = 2 ∨ k = 3 ∨ k = 4 ∨ k = 5 ∨ k = 6 ∨ k = 7 := by omega
  rcases hcase with rfl | rfl | rfl | rfl | rfl | rfl | rfl | rfl
  · exact q0
  · exact q1
  · exact q2
  · exact q3
  · exact q4
  · exact q5
  · exact q6
  · exact q7
end Go.Proofs.Qxb6613005aDoor.Kw
