/-
  THE CONTRACTS OF zzCloneI32, zzRoots.
-/
import Derived.Test.Qxb6612831aFind
namespace Go.Proofs.Qxb6612831a.Uf
open Go.RowKit

theorem info21 : (Try.prog.info? 21).map (fun i => (i.zero, i.size, i.bytes)) = some (some (.int .i32 0), 1, 4) := by kernel_rfl
theorem make22 (p : Nat) (hp : p ≤ 262144) : ∃ Z : Array Value, Hid (Z = ((List.replicate p 0).map fun (s : Nat) => Value.int .i32 (s : Int)).toArray) ∧
    ∀ w, (Instr.makeSlice 22 (.int .i64 p) (.int .i64 p)).run Try.prog w = .ok (.slice (some ⟨w.heap.size, 0, none⟩) p p) (w.alloc (.cells Z 21)) := by
  obtain ⟨i, hi, hz0, hz1, hz2⟩ := info_parts info21
  refine ⟨_, rfl, fun w => ?_⟩
  rw [run_make (P := Try.prog) w 22 21 i (.int .i32 0) Try.underlying22 hi hz0 .i64 .i64 p p (by omega) (by omega) (by rw [hz2]; omega) (by omega), hz1]
  simp only [Int.toNat_natCast, Nat.mul_one]
  congr 3
  apply Array.ext
  · simp [size_madeCells]
  · intro i h1 h2
    simp [madeCells, Value.cells, Nat.mod_one]

theorem newRow (w : World) {Z : Array Value} {p : Nat} (hZ : Hid (Z = ((List.replicate p 0).map fun (s : Nat) => Value.int .i32 (s : Int)).toArray)) : IRow (w.alloc (.cells Z 21)) w.heap.size (List.replicate p 0) := by
  show (w.heap.push _)[w.heap.size]? = _
  rw [hZ.out]; simp

/-- The numbers U lie in n cells from ⟨b, o⟩ on, in an old block. -/
structure Lies (w : World) (b o n : Nat) (U : List Nat) : Prop where
  len : U.length = n
  lt : b < w.heap.size
  cell : ∀ i, i < n → w.cell? ⟨b, o + i, none⟩ = some (.int .i32 (U.getD i 0 : Nat))
theorem IRow.lies {w : World} {g : Nat} {U : List Nat} (h : IRow w g U) {n : Nat} (hn : U.length = n) : Lies w g 0 n U :=
  ⟨hn, h.lt, fun i hi => by rw [Nat.zero_add]; exact h.cell i (by omega)⟩
theorem Lies.below {w w' : World} {b o n : Nat} {U : List Nat} (h : Lies w b o n U) {B : Nat} (hb : Below B w w') (hB : b < B) : Lies w' b o n U :=
  ⟨h.len, Nat.lt_of_lt_of_le h.lt hb.size, fun i hi => by rw [hb.cell (p := ⟨b, o + i, none⟩) hB]; exact h.cell i hi⟩

theorem ext_of {xs ys : List Nat} (hl : xs.length = ys.length) (h : ∀ j, j < xs.length → xs.getD j 0 = ys.getD j 0) : xs = ys := by
  apply List.ext_getElem hl
  intro j h1 h2
  have := h j h1
  simpa [List.getD, h1, h2] using this

theorem below_new {w wr : World} {o : Obj} (h : But w.heap.size (w.alloc o) wr) : Below w.heap.size w wr := ((Below.refl _ _).alloc (Nat.le_refl _) o).trans (h.below (Nat.le_refl _))

set_option maxHeartbeats 1000000 in
theorem clone7 (b o n c : Nat) (U : List Nat) (w : World) (hU : Lies w b o n U) (hn : n ≤ 262144) :
    Calls Try.prog 7 #[.slice (some ⟨b, o, none⟩) n c] w fun e w' => e = .returned (.slice (some ⟨w.heap.size, 0, none⟩) n n) ∧ IRow w' w.heap.size U ∧ Below w.heap.size w w' := by
  have ne : ∀ (w : World) (a : Option Addr) (n c n' c' : Nat), (binOp .eql 22 (.slice a n c) (.slice none n' c')).run Try.prog w = .ok (.bool a.isNone) w := fun w a n c n' c' => Lib.run_eql_slice_nil w _ _ a n c n' c' Try.underlying22
  obtain ⟨Z, hZ, mk⟩ := make22 n hn
  have h0 := newRow w hZ
  go_enter Try.func7, Try.ntmps7
  go_wp2
  clear ne mk hZ
  go_loopw [4] (fun v wr => ∃ (k : Nat) (V : List Nat), k ≤ n ∧ v = .int .i64 (k : Int) ∧ IRow wr w.heap.size V ∧ Hid (V.length = n ∧ ∀ j, j < k → V.getD j 0 = U.getD j 0) ∧ But w.heap.size (w.alloc (.cells Z 21)) wr) (fun v _ => n - (intOf v).toNat)
  case atStart => exact ⟨0, _, Nat.zero_le _, rfl, h0, ⟨by simp, fun j hj => by omega⟩, But.refl _ _⟩
  case round =>
    obtain ⟨k, V, hk, rfl, hV, hall, hbut⟩ := hrel
    by_cases hlt : k < n
    · have hlen := hall.out.1
      have c0 := hU.cell k hlt
      rw [← (below_new hbut).cell (p := ⟨b, o + k, none⟩) hU.lt] at c0
      obtain ⟨u, hu⟩ : ∃ u, u = U.getD k 0 := ⟨_, rfl⟩
      rw [← hu] at c0
      have c1 := hV.cell k (by omega)
      have f1 := hV.free k
      have hV2 := hV.set k u
      have hall2 : Hid ((V.set k u).length = n ∧ ∀ j, j < k + 1 → (V.set k u).getD j 0 = U.getD j 0) := by
        refine ⟨by simp [hlen], fun j hj => ?_⟩
        rw [getD_set V k u j (by omega)]
        split
        · rename_i e; rw [e, hu]
        · exact hall.out.2 j (by omega)
      clear hu hlen
      go_wp2
      go_roundw
      case rel => exact ⟨k + 1, V.set k u, by omega, by go_num, hV2, hall2, hbut.setCell _ _⟩
      case measure => simp [intOf]; omega
    · obtain rfl : k = n := by omega
      have hVU : V = U := ext_of (by rw [hall.out.1, hU.len]) (fun j hj => hall.out.2 j (by have := hall.out.1; omega))
      subst hVU
      clear h0
      go_wp2
      go_ret
      exact ⟨rfl, hV, below_new hbut⟩

set_option maxHeartbeats 1000000 in
theorem roots8 (b o n c : Nat) (U : List Nat) (w : World) (hU : Lies w b o n U) (f : Forest U n) (hn : n ≤ 262144) :
    Calls Try.prog 8 #[.slice (some ⟨b, o, none⟩) n c] w fun e w' => e = .returned (.slice (some ⟨w.heap.size, 0, none⟩) n n) ∧ ∃ R, IRow w' w.heap.size R ∧ IsRoots U R n ∧ Below w.heap.size w w' := by
  obtain ⟨Z, hZ, mk⟩ := make22 n hn
  have h0 := newRow w hZ
  go_enter Try.func8, Try.ntmps8
  go_wp2
  clear mk hZ
  go_loopw [4] (fun v wr => ∃ (k : Nat) (V : List Nat), k ≤ n ∧ v = .int .i64 (k : Int) ∧ IRow wr w.heap.size V ∧ RootsTo U V n k ∧ But w.heap.size (w.alloc (.cells Z 21)) wr) (fun v _ => n - (intOf v).toNat)
  case atStart => exact ⟨0, _, Nat.zero_le _, rfl, h0, ⟨by simp, fun j hj => by omega⟩, But.refl _ _⟩
  case round =>
    obtain ⟨k, V, hk, rfl, hV, hall, hbut⟩ := hrel
    by_cases hlt : k < n
    · have hlen := hall.len
      have hle := f.le k hlt
      have c0 := hU.cell k hlt
      rw [← (below_new hbut).cell (p := ⟨b, o + k, none⟩) hU.lt] at c0
      have c1 := hV.cell k (by omega)
      have f1 := hV.free k
      by_cases he : U.getD k 0 = k
      · rw [he] at c0
        have hst := hall.step f hlt k (by rw [if_pos he])
        have hV2 := hV.set k k
        have b0 : ((k : Int) == (k : Int)) = true := by simp
        clear he hlen hle
        go_wp2
        go_roundw
        case rel => exact ⟨k + 1, V.set k k, by omega, by go_num, hV2, hst, hbut.setCell _ _⟩
        case measure => simp [intOf]; omega
      · have hst := hall.step f hlt (V.getD (U.getD k 0) 0) (by rw [if_neg he])
        have c2 := hV.cell (U.getD k 0) (by omega)
        obtain ⟨u, hu⟩ : ∃ u, u = U.getD k 0 := ⟨_, rfl⟩
        rw [← hu] at c0 c2 hst hle he
        obtain ⟨q, hq⟩ : ∃ q, q = V.getD u 0 := ⟨_, rfl⟩
        rw [← hq] at c2 hst
        have hV2 := hV.set k q
        have b0 : ((u : Int) == (k : Int)) = false := by simp; omega
        have huk : u < k := by omega
        clear hu hq he hlen hle
        go_wp2
        go_roundw
        case rel => exact ⟨k + 1, V.set k q, by omega, by go_num, hV2, hst, hbut.setCell _ _⟩
        case measure => simp [intOf]; omega
    · obtain rfl : k = n := by omega
      clear h0
      go_wp2
      go_ret
      exact ⟨rfl, V, hV, hall.done, below_new hbut⟩
end Go.Proofs.Qxb6612831a.Uf
