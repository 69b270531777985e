/-
  THE INDEX IN MEMORY, AND THE CONTRACTS OF tagOf AND put.
-/
import Derived.Test.Qxb6612798aRows
import Derived.Test.Qxb6612798aPlain
import Derived.WalkKit
import Derived.ProofKit
import Derived.Outline
import Derived.BigQuiet
import Derived.Handy
import Derived.Deep.LoopGhost
import Derived.Deep.RegionHeld3
namespace Go.Proofs.Qxb6612798a.Ix
open Go.RowKit

/-- Block bx holds the struct Index: its two slices, its count. -/
def IxAt (w : World) (bx : Nat) (sp tp : Option Addr) (p n : Nat) : Prop := w.heap[bx]? = some (.cells #[.slice sp p p, .slice tp p p, .int .i64 n] 30 (0, 0))
/-- Block g holds the slots S. -/
def URow (w : World) (g : Nat) (S : List Nat) : Prop := w.heap[g]? = some (.cells (S.map fun (s : Nat) => Value.int .u32 (s : Int)).toArray 23 (0, 0))
/-- Block g holds the tags T. -/
def BRow (w : World) (g : Nat) (T : List Nat) : Prop := w.heap[g]? = some (.cells (T.map fun (s : Nat) => Value.int .u8 (s : Int)).toArray 5 (0, 0))

theorem IxAt.out {w : World} {bx : Nat} {sp tp : Option Addr} {p n : Nat} (h : IxAt w bx sp tp p n) : w.heap[bx]? = some (.cells #[.slice sp p p, .slice tp p p, .int .i64 n] 30 (0, 0)) := h
theorem URow.out {w : World} {g : Nat} {S : List Nat} (h : URow w g S) : w.heap[g]? = some (.cells (S.map fun (s : Nat) => Value.int .u32 (s : Int)).toArray 23 (0, 0)) := h
theorem BRow.out {w : World} {g : Nat} {T : List Nat} (h : BRow w g T) : w.heap[g]? = some (.cells (T.map fun (s : Nat) => Value.int .u8 (s : Int)).toArray 5 (0, 0)) := h

theorem IxAt.c0 {w : World} {bx : Nat} {sp tp : Option Addr} {p n : Nat} (h : IxAt w bx sp tp p n) : w.cell? ⟨bx, 0, none⟩ = some (.slice sp p p) := by simp [World.cell?, h.out]
theorem IxAt.c1 {w : World} {bx : Nat} {sp tp : Option Addr} {p n : Nat} (h : IxAt w bx sp tp p n) : w.cell? ⟨bx, 1, none⟩ = some (.slice tp p p) := by simp [World.cell?, h.out]
theorem IxAt.c2 {w : World} {bx : Nat} {sp tp : Option Addr} {p n : Nat} (h : IxAt w bx sp tp p n) : w.cell? ⟨bx, 2, none⟩ = some (.int .i64 n) := by simp [World.cell?, h.out]
theorem IxAt.free {w : World} {bx : Nat} {sp tp : Option Addr} {p n : Nat} (h : IxAt w bx sp tp p n) (i : Nat) : w.frozen? ⟨bx, i, none⟩ = false := by simp [World.frozen?, h.out]
theorem URow.cell {w : World} {g : Nat} {S : List Nat} (h : URow w g S) (i : Nat) (hi : i < S.length) : w.cell? ⟨g, i, none⟩ = some (.int .u32 (S.getD i 0 : Nat)) := by
  simp [World.cell?, h.out, hi, List.getD]
theorem BRow.cell {w : World} {g : Nat} {S : List Nat} (h : BRow w g S) (i : Nat) (hi : i < S.length) : w.cell? ⟨g, i, none⟩ = some (.int .u8 (S.getD i 0 : Nat)) := by
  simp [World.cell?, h.out, hi, List.getD]
theorem URow.free {w : World} {g : Nat} {S : List Nat} (h : URow w g S) (i : Nat) : w.frozen? ⟨g, i, none⟩ = false := by simp [World.frozen?, h.out]
theorem BRow.free {w : World} {g : Nat} {S : List Nat} (h : BRow w g S) (i : Nat) : w.frozen? ⟨g, i, none⟩ = false := by simp [World.frozen?, h.out]
theorem URow.set {w : World} {g : Nat} {S : List Nat} (h : URow w g S) (j n : Nat) : URow (w.setCell ⟨g, j, none⟩ (.int .u32 n)) g (S.set j n) := by
  show _ = _
  simp [World.setCell, Array.getElem?_modify, h.out, List.map_set]
theorem BRow.set {w : World} {g : Nat} {S : List Nat} (h : BRow w g S) (j n : Nat) : BRow (w.setCell ⟨g, j, none⟩ (.int .u8 n)) g (S.set j n) := by
  show _ = _
  simp [World.setCell, Array.getElem?_modify, h.out, List.map_set]
theorem IxAt.lt {w : World} {bx : Nat} {sp tp : Option Addr} {p n : Nat} (h : IxAt w bx sp tp p n) : bx < w.heap.size := (Array.getElem?_eq_some_iff.1 h.out).1
theorem URow.lt {w : World} {g : Nat} {S : List Nat} (h : URow w g S) : g < w.heap.size := (Array.getElem?_eq_some_iff.1 h.out).1
theorem BRow.lt {w : World} {g : Nat} {S : List Nat} (h : BRow w g S) : g < w.heap.size := (Array.getElem?_eq_some_iff.1 h.out).1
theorem ne_xu {w : World} {bx : Nat} {sp tp : Option Addr} {p n : Nat} {g : Nat} {S : List Nat} (h : IxAt w bx sp tp p n) (k : URow w g S) : bx ≠ g := by
  rintro rfl; have := h.out.symm.trans k.out; simp at this
theorem ne_xb {w : World} {bx : Nat} {sp tp : Option Addr} {p n : Nat} {g : Nat} {S : List Nat} (h : IxAt w bx sp tp p n) (k : BRow w g S) : bx ≠ g := by
  rintro rfl; have := h.out.symm.trans k.out; simp at this
theorem ne_ub {w : World} {g : Nat} {S : List Nat} {g' : Nat} {T : List Nat} (h : URow w g S) (k : BRow w g' T) : g ≠ g' := by
  rintro rfl; have := h.out.symm.trans k.out; simp at this

theorem ret_int {k : IntKind} {a b : Int} (h : a = b) : Ending.returned (.int k a) = .returned (.int k b) := by rw [h]

theorem URow.other {w : World} {g : Nat} {S : List Nat} (h : URow w g S) (a : Addr) (v : Value) (hg : g ≠ a.block) : URow (w.setCell a v) g S := by
  show _ = _
  rw [Below.heap_setCell _ _ _ _ hg]; exact h.out
theorem BRow.other {w : World} {g : Nat} {S : List Nat} (h : BRow w g S) (a : Addr) (v : Value) (hg : g ≠ a.block) : BRow (w.setCell a v) g S := by
  show _ = _
  rw [Below.heap_setCell _ _ _ _ hg]; exact h.out

/-- w' is w but for what lies in the blocks that 'M' names; no block has come or gone. -/
structure But (M : Nat → Prop) (w w' : World) : Prop where
  os : w'.os = w.os
  tape : w'.tape = w.tape
  output : w'.output = w.output
  size : w'.heap.size = w.heap.size
  block : ∀ k, ¬ M k → w'.heap[k]? = w.heap[k]?

theorem two_stores (w : World) (g g' i j : Nat) (u v : Value) : But (fun k => k = g ∨ k = g') w ((w.setCell ⟨g, i, none⟩ u).setCell ⟨g', j, none⟩ v).drew :=
  ⟨rfl, rfl, rfl, by simp [World.setCell], fun k hk => by
    show ((w.setCell ⟨g, i, none⟩ u).setCell ⟨g', j, none⟩ v).heap[k]? = _
    rw [Below.heap_setCell _ _ _ _ (fun e => hk (.inr e)), Below.heap_setCell _ _ _ _ (fun e => hk (.inl e))]⟩

set_option maxHeartbeats 400000 in
theorem tag26 (h : Nat) (hh : h < 18446744073709551616) (w : World) :
    Calls Try.prog 26 #[.int .u64 h] w fun e w' => e = .returned (.int .u8 (tagN h : Nat)) ∧ w = w' := by
  go_enter Try.func26, Try.ntmps26
  go_wp2
  go_ret
  exact ⟨ret_int (by unfold tagN; omega), rfl⟩

theorem and_mask (x p : Nat) (h : ∃ e, p = 2 ^ e ∧ 3 ≤ e ∧ e ≤ 13) (hx : x < 18446744073709551616) (h1 : 1 ≤ p) (h2 : p ≤ 8192) :
    bits BinOp.and IntKind.u64 (x : Int) ((p : Int) - 1) = ((x % p : Nat) : Int) := by
  rw [show ((p : Int) - 1) = ((p - 1 : Nat) : Int) from by omega, bits_and_u64_nat x (p - 1) hx (by omega), mask_mod x p h]

set_option maxHeartbeats 1000000 in
theorem put29 (bx gs gt p c : Nat) (S T : List Nat) (n h : Nat) (w : World) (hx : IxAt w bx (some ⟨gs, 0, none⟩) (some ⟨gt, 0, none⟩) p c) (hS : URow w gs S) (hT : BRow w gt T) (lS : Hid (S.length = p)) (lT : Hid (T.length = p))
    (hp : ∃ e, p = 2 ^ e ∧ 3 ≤ e ∧ e ≤ 13) (h8 : 8 ≤ p) (hp2 : p ≤ 8192) (hfree : nz S < p) (hh : h < 18446744073709551616) :
    Calls Try.prog 29 #[.pointer (some ⟨bx, 0, none⟩), .int .u32 n, .int .u64 h] w fun e w' => e = .returned (.tuple #[]) ∧ ∃ j d, j = (h + d) % p ∧ d < p ∧ S.getD j 0 = 0 ∧ Path S p h d ∧
      URow w' gs (S.set j n) ∧ BRow w' gt (T.set j (tagN h)) ∧ But (fun k => k = gs ∨ k = gt) w w' := by
  have c0 := hx.c0
  have c1 := hx.c1
  have HP : Hid (∃ e, p = 2 ^ e ∧ 3 ≤ e ∧ e ≤ 13) := hp
  clear hp
  have hm : bits BinOp.and IntKind.u64 (h : Int) ((p : Int) - 1) = ((h % p : Nat) : Int) := and_mask h p HP.out hh (by omega) (by omega)
  obtain ⟨i0, hi0⟩ : ∃ i0, i0 = h % p := ⟨_, rfl⟩
  rw [← hi0] at hm
  have HI0 : Hid (i0 = h % p) := hi0
  have hi0p : i0 < p := by rw [hi0]; exact Nat.mod_lt _ (by omega)
  clear hi0
  go_enter Try.func29, Try.ntmps29
  go_wp2
  clear hm
  go_loopg [7] p (fun k v wr => ∃ d i : Nat, k + d = p ∧ v = .int .u64 (i : Int) ∧ Hid (i = (h + d) % p) ∧ i < p ∧ Hid (Path S p h d) ∧ wr = w)
  case atStart => exact ⟨0, i0, by omega, rfl, HI0, hi0p, fun d' hd => by omega, rfl⟩
  case round =>
    obtain ⟨d, i, hgk, rfl, hi, hip, hpath, rfl⟩ := hrel
    have hdp : d < p := hpath.out.short lS.out hfree
    have cS := hS.cell i (by have := lS.out; omega)
    obtain ⟨s, hs⟩ : ∃ s, s = S.getD i 0 := ⟨_, rfl⟩
    rw [← hs] at cS
    have HS : Hid (s = S.getD i 0) := hs
    clear hs
    by_cases hs0 : s = 0
    · subst hs0
      have b0 : ((0 : Int) != 0) = false := rfl
      have n1 := ne_xu hx hS
      have n2 := ne_xb hx hT
      have n3 := ne_ub hS hT
      have m1 := n1.symm
      have m2 := n2.symm
      have m3 := n3.symm
      have cT := hT.cell i (by have := lT.out; omega)
      obtain ⟨t, ht⟩ : ∃ t : Int, t = ((T.getD i 0 : Nat) : Int) := ⟨_, rfl⟩
      rw [← ht] at cT
      have fS := hS.free i
      have fT := hT.free i
      have k0 : (0 : Int) ≤ (i : Int) := by omega
      have k1 : (i : Int) < (p : Int) := by omega
      have tg := fun w => tag26 h hh w
      obtain ⟨tn, htn⟩ : ∃ tn : Nat, tn = tagN h := ⟨_, rfl⟩
      rw [← htn] at tg
      have HTN : Hid (tn = tagN h) := htn
      clear ht htn
      go_wp2
      go_region_held3 (fun w' => w'.cell? ⟨bx, 0, none⟩ = some (.slice (some ⟨gs, 0, none⟩) p p) ∧ w'.cell? ⟨bx, 1, none⟩ = some (.slice (some ⟨gt, 0, none⟩) p p)) (go_keep) ((go_at_call 26; refine (tg _).mono ?_; rintro e w' ⟨rfl, rfl⟩))
      all_goals
        go_wp2
        go_end0
        have HU : URow ((wr.setCell ⟨gs, i, none⟩ (.int .u32 n)).setCell ⟨gt, i, none⟩ (.int .u8 tn)) gs (S.set i n) := (hS.set i n).other _ _ n3
        have HB : BRow ((wr.setCell ⟨gs, i, none⟩ (.int .u32 n)).setCell ⟨gt, i, none⟩ (.int .u8 tn)) gt (T.set i tn) := (hT.other ⟨gs, i, none⟩ _ m3).set i tn
        exact ⟨rfl, i, d, hi.out, hdp, HS.out.symm, hpath.out, HU, HTN.out ▸ HB, two_stores wr gs gt i i _ _⟩
    · have hs1 : ((s : Int) != 0) = true := by simp [hs0]
      have hm : bits BinOp.and IntKind.u64 ((i : Int) + 1) ((p : Int) - 1) = (((i + 1) % p : Nat) : Int) := and_mask (i + 1) p HP.out (by omega) (by omega) (by omega)
      obtain ⟨i1, hi1⟩ : ∃ i1, i1 = (i + 1) % p := ⟨_, rfl⟩
      rw [← hi1] at hm
      have HI1 : Hid (i1 = (h + (d + 1)) % p) := by show _ = _; rw [hi1, hi.out]; exact next_slot h d p
      have hi1p : i1 < p := by rw [hi1]; exact Nat.mod_lt _ (by omega)
      have HP1 : Hid (Path S p h (d + 1)) := hpath.out.succ (by rw [← hi.out, ← HS.out]; exact hs0)
      clear hi1
      go_wp2
      go_roundg (gk - 1)
      case measure => omega
      case rel => exact ⟨d + 1, i1, by omega, rfl, HI1, hi1p, HP1, rfl⟩
end Go.Proofs.Qxb6612798a.Ix
