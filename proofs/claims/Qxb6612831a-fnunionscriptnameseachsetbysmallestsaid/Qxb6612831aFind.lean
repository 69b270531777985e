/-
  THE FOREST IN MEMORY, AND THE CONTRACTS OF find, union, ZZunion.
-/
import Derived.Test.Qxb6612831aRows
import Derived.Test.Qxb6612831aPlain
import Derived.WalkKit
import Derived.ProofKit
import Derived.Outline
import Derived.Handy
import Derived.WalkSpells
import Derived.Deep.LoopGhost
namespace Go.Proofs.Qxb6612831a.Uf
open Go.RowKit

/-- Block g holds the int32 numbers U. -/
def IRow (w : World) (g : Nat) (U : List Nat) : Prop := w.heap[g]? = some (.cells (U.map fun (s : Nat) => Value.int .i32 (s : Int)).toArray 21 (0, 0))
theorem IRow.out {w : World} {g : Nat} {U : List Nat} (h : IRow w g U) : w.heap[g]? = some (.cells (U.map fun (s : Nat) => Value.int .i32 (s : Int)).toArray 21 (0, 0)) := h
theorem IRow.cell {w : World} {g : Nat} {S : List Nat} (h : IRow w g S) (i : Nat) (hi : i < S.length) : w.cell? ⟨g, i, none⟩ = some (.int .i32 (S.getD i 0 : Nat)) := by
  simp [World.cell?, h.out, hi, List.getD]
theorem IRow.free {w : World} {g : Nat} {S : List Nat} (h : IRow w g S) (i : Nat) : w.frozen? ⟨g, i, none⟩ = false := by simp [World.frozen?, h.out]
theorem IRow.set {w : World} {g : Nat} {S : List Nat} (h : IRow w g S) (j n : Nat) : IRow (w.setCell ⟨g, j, none⟩ (.int .i32 n)) g (S.set j n) := by
  show _ = _
  simp [World.setCell, Array.getElem?_modify, h.out, List.map_set]
theorem IRow.lt {w : World} {g : Nat} {S : List Nat} (h : IRow w g S) : g < w.heap.size := (Array.getElem?_eq_some_iff.1 h.out).1

/-- w' is w but for what lies in block g; no block has come or gone. -/
structure But (g : Nat) (w w' : World) : Prop where
  os : w'.os = w.os
  tape : w'.tape = w.tape
  output : w'.output = w.output
  size : w'.heap.size = w.heap.size
  block : ∀ k, k ≠ g → w'.heap[k]? = w.heap[k]?
theorem But.refl (g : Nat) (w : World) : But g w w := ⟨rfl, rfl, rfl, rfl, fun _ _ => rfl⟩
theorem But.trans {g : Nat} {a b c : World} (h : But g a b) (k : But g b c) : But g a c := ⟨k.os.trans h.os, k.tape.trans h.tape, k.output.trans h.output, k.size.trans h.size, fun i hi => (k.block i hi).trans (h.block i hi)⟩
theorem But.setCell {g : Nat} {w w' : World} (h : But g w w') (i : Nat) (v : Value) : But g w (w'.setCell ⟨g, i, none⟩ v) :=
  ⟨h.os, h.tape, h.output, by simp [World.setCell, ← h.size], fun k hk => by rw [Below.heap_setCell _ _ _ _ hk]; exact h.block k hk⟩
theorem But.below {g B : Nat} {w w' : World} (h : But g w w') (hB : B ≤ g) : Below B w w' := ⟨h.os, h.tape, h.output, Nat.le_of_eq h.size.symm, fun k hk => h.block k (by omega)⟩
theorem But.row {g g' : Nat} {w w' : World} {U : List Nat} (h : But g w w') (k : IRow w g' U) (hne : g' ≠ g) : IRow w' g' U := by
  show _ = _
  rw [h.block g' hne]; exact k.out

theorem ret_int {k : IntKind} {a b : Int} (h : a = b) : Ending.returned (.int k a) = .returned (.int k b) := by rw [h]
theorem hide {p : Prop} (h : p) : Hid p := h
theorem unhide {p : Prop} (h : Hid p) : p := h

set_option maxHeartbeats 1000000 in
theorem find21 (g n : Nat) (U R : List Nat) (v : Nat) (w : World) (hU : IRow w g U) (f : Forest U n) (h : IsRoots U R n) (hv : v < n) :
    Calls Try.prog 21 #[.slice (some ⟨g, 0, none⟩) n n, .int .i32 v] w fun e w' => e = .returned (.int .i32 (R.getD v 0 : Nat)) ∧ ∃ U', IRow w' g U' ∧ Forest U' n ∧ IsRoots U' R n ∧ But g w w' := by
  go_enter Try.func21, Try.ntmps21
  go_wp2
  go_loopg [1] v (fun k x wr => ∃ (y : Nat) (V : List Nat), y ≤ k ∧ y < n ∧ x = .int .i32 (y : Int) ∧ IRow wr g V ∧ Forest V n ∧ IsRoots V R n ∧ Hid (R.getD y 0 = R.getD v 0) ∧ But g w wr)
  case atStart => exact ⟨v, U, Nat.le_refl _, hv, rfl, hU, f, h, rfl, But.refl _ _⟩
  case round =>
    obtain ⟨y, V, hyk, hyn, rfl, hV, fV, hR, hr, hbut⟩ := hrel
    have hle := fV.le y hyn
    have c0 := hV.cell y (by rw [fV.len]; exact hyn)
    by_cases he : V.getD y 0 = y
    · rw [he] at c0
      have b0 : ((y : Int) != (y : Int)) = false := by simp
      have hself := hide (hR.self hyn he)
      clear he
      go_wp2
      go_ret
      exact ⟨ret_int (by rw [← hr.out, hself.out]), V, hV, fV, hR, hbut⟩
    · have hh := halve fV hR hyn he
      have hup : R.getD (V.getD (V.getD y 0) 0) 0 = R.getD v 0 := by
        rw [← hr.out, hR.up hyn, hR.up (x := V.getD y 0) (by omega)]
      have hle2 := fV.le (V.getD y 0) (by omega)
      have c1 := hV.cell (V.getD y 0) (by rw [fV.len]; omega)
      obtain ⟨p, hp⟩ : ∃ p, p = V.getD y 0 := ⟨_, rfl⟩
      rw [← hp] at c0 c1 hle hle2 he hh hup
      obtain ⟨q, hq⟩ : ∃ q, q = V.getD p 0 := ⟨_, rfl⟩
      rw [← hq] at c1 hle2 hh hup
      have fr := hV.free y
      have hV2 := hV.set y q
      have c2 := hV2.cell y (by simp [fV.len]; exact hyn)
      rw [getD_set V y q y (by rw [fV.len]; exact hyn), if_pos rfl] at c2
      have b0 : ((p : Int) != (y : Int)) = true := by simp; omega
      have HUP := hide hup
      have HE := hide he
      have hqy : q < y := by omega
      clear hp hq hup he
      go_wp2
      go_roundg q
      case measure => omega
      case rel => exact ⟨q, V.set y q, Nat.le_refl _, by omega, rfl, hV2, hh.1, hh.2, HUP, hbut.setCell _ _⟩

set_option maxHeartbeats 1000000 in
theorem union19 (g n : Nat) (U R : List Nat) (v x : Nat) (w : World) (hU : IRow w g U) (f : Forest U n) (h : IsRoots U R n) (hv : v < n) (hx : x < n) :
    Calls Try.prog 19 #[.slice (some ⟨g, 0, none⟩) n n, .int .i32 v, .int .i32 x] w fun e w' => e = .returned (.tuple #[]) ∧ ∃ U', IRow w' g U' ∧ Forest U' n ∧ IsRoots U' (merged R (R.getD v 0) (R.getD x 0)) n ∧ But g w w' := by
  have f1 := find21 g n U R v w hU f h hv
  have ha := h.le f v hv
  have hb := h.le f x hx
  have ia := h.idem f v hv
  have ib := h.idem f x hx
  obtain ⟨a, ea⟩ : ∃ a, a = R.getD v 0 := ⟨_, rfl⟩
  obtain ⟨b, eb⟩ : ∃ b, b = R.getD x 0 := ⟨_, rfl⟩
  rw [← ea] at f1 ha ia ⊢
  rw [← eb] at hb ib ⊢
  have F2 : Hid (∀ U' w', IRow w' g U' → Forest U' n → IsRoots U' R n → Calls Try.prog 21 #[.slice (some ⟨g, 0, none⟩) n n, .int .i32 x] w' fun e w'' => e = .returned (.int .i32 (b : Nat)) ∧ ∃ U2, IRow w'' g U2 ∧ Forest U2 n ∧ IsRoots U2 R n ∧ But g w' w'') := fun U' w' h1 h2 h3 => by
    rw [eb]; exact find21 g n U' R x w' h1 h2 h3 hx
  have IA := hide ia
  have IB := hide ib
  clear ea eb ia ib
  rcases Nat.lt_trichotomy a b with hab | hab | hab
  · go_enter Try.func19, Try.ntmps19
    go_wp2_with fail
    refine f1.mono ?_
    rintro e w1 ⟨rfl, U1, r1, g1, k1, b1⟩
    clear f1
    go_wp2_with fail
    refine ((unhide F2) U1 w1 r1 g1 k1).mono ?_
    rintro e w2 ⟨rfl, U2, r2, g2, k2, b2⟩
    have cc := r2.cell b (by rw [g2.len]; omega)
    have fr := r2.free b
    go_wp2
    go_end0
    have hj := join g2 k2 (a := a) (b := b) (by omega) (by omega) (unhide IA) (unhide IB)
    rw [Nat.max_eq_right (Nat.le_of_lt hab), Nat.min_eq_left (Nat.le_of_lt hab)] at hj
    exact ⟨rfl, _, r2.set b a, hj.1, hj.2, (b1.trans b2).setCell _ _⟩
  · subst hab
    go_enter Try.func19, Try.ntmps19
    go_wp2_with fail
    refine f1.mono ?_
    rintro e w1 ⟨rfl, U1, r1, g1, k1, b1⟩
    clear f1
    go_wp2_with fail
    refine ((unhide F2) U1 w1 r1 g1 k1).mono ?_
    rintro e w2 ⟨rfl, U2, r2, g2, k2, b2⟩
    have cc := r2.cell a (by rw [g2.len]; omega)
    have fr := r2.free a
    go_wp2
    go_end0
    have hj := join g2 k2 (a := a) (b := a) (by omega) (by omega) (unhide IA) (unhide IB)
    rw [Nat.max_self, Nat.min_self] at hj
    exact ⟨rfl, _, r2.set a a, hj.1, hj.2, (b1.trans b2).setCell _ _⟩
  · go_enter Try.func19, Try.ntmps19
    go_wp2_with fail
    refine f1.mono ?_
    rintro e w1 ⟨rfl, U1, r1, g1, k1, b1⟩
    clear f1
    go_wp2_with fail
    refine ((unhide F2) U1 w1 r1 g1 k1).mono ?_
    rintro e w2 ⟨rfl, U2, r2, g2, k2, b2⟩
    have cc := r2.cell a (by rw [g2.len]; omega)
    have fr := r2.free a
    go_wp2
    go_end0
    have hj := join g2 k2 (a := a) (b := b) (by omega) (by omega) (unhide IA) (unhide IB)
    rw [Nat.max_eq_left (Nat.le_of_lt hab), Nat.min_eq_right (Nat.le_of_lt hab)] at hj
    exact ⟨rfl, _, r2.set a b, hj.1, hj.2, (b1.trans b2).setCell _ _⟩

set_option maxHeartbeats 400000 in
theorem union9 (g n : Nat) (U R : List Nat) (v x : Nat) (w : World) (hU : IRow w g U) (f : Forest U n) (h : IsRoots U R n) (hv : v < n) (hx : x < n) :
    Calls Try.prog 9 #[.slice (some ⟨g, 0, none⟩) n n, .int .i32 v, .int .i32 x] w fun e w' => e = .returned (.tuple #[]) ∧ ∃ U', IRow w' g U' ∧ Forest U' n ∧ IsRoots U' (merged R (R.getD v 0) (R.getD x 0)) n ∧ But g w w' := by
  have hu := union19 g n U R v x w hU f h hv hx
  go_enter Try.func9, Try.ntmps9
  go_wp2_with (go_at_call 19; refine hu.mono ?_; rintro e w' ⟨rfl, hR⟩)
  go_end0
  exact ⟨rfl, hR⟩
end Go.Proofs.Qxb6612831a.Uf
