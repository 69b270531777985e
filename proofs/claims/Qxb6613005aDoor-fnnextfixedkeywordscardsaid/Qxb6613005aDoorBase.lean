/-
  BYTES IN MEMORY; THE KEYS IN MEMORY; THE CONTRACTS OF THE SMALL FUNCTIONS.
-/
import Derived.Test.Qxb6613005aDoorRows
import Derived.WalkKit
import Derived.ProofKit
import Derived.Outline
import Derived.Handy
import Derived.WalkSpells
import Derived.BigQuiet
import Derived.Deep.RegionHeld3
namespace Go.Proofs.Qxb6613005aDoor.Kw
open Go.RowKit

theorem ret_int {k : IntKind} {a b : Int} (h : a = b) : Ending.returned (.int k a) = .returned (.int k b) := by rw [h]
theorem ret_bool {a b : Bool} (h : a = b) : Ending.returned (.bool a) = .returned (.bool b) := by rw [h]
theorem hide {p : Prop} (h : p) : Hid p := h
theorem unhide {p : Prop} (h : Hid p) : p := h

/-- Block bk holds a Keys over fixed-size records: its flip, the record's size, the key's offset and length, the memory. -/
def KeysAt (w : World) (bk : Nat) (flip size off len : Nat) (mv : Value) : Prop :=
  w.heap[bk]? = some (.cells #[.int .i8 0, .int .u8 flip, .int .u8 0, .bool false, .int .i64 size, .int .i64 0, .int .i64 off, .int .i64 len, .bool false, .int .u8 0, .int .u64 0, .pointer none, .pointer none, mv] 57 (0, 0))
theorem KeysAt.out {w : World} {bk flip size off len : Nat} {mv : Value} (h : KeysAt w bk flip size off len mv) :
  w.heap[bk]? = some (.cells #[.int .i8 0, .int .u8 flip, .int .u8 0, .bool false, .int .i64 size, .int .i64 0, .int .i64 off, .int .i64 len, .bool false, .int .u8 0, .int .u64 0, .pointer none, .pointer none, mv] 57 (0, 0)) := h
theorem KeysAt.c0 {w : World} {bk flip size off len : Nat} {mv : Value} (h : KeysAt w bk flip size off len mv) : w.cell? ⟨bk, 0, none⟩ = some (.int .i8 0) := by simp [World.cell?, h.out]
theorem KeysAt.c1 {w : World} {bk flip size off len : Nat} {mv : Value} (h : KeysAt w bk flip size off len mv) : w.cell? ⟨bk, 1, none⟩ = some (.int .u8 flip) := by simp [World.cell?, h.out]
theorem KeysAt.c4 {w : World} {bk flip size off len : Nat} {mv : Value} (h : KeysAt w bk flip size off len mv) : w.cell? ⟨bk, 4, none⟩ = some (.int .i64 size) := by simp [World.cell?, h.out]
theorem KeysAt.c6 {w : World} {bk flip size off len : Nat} {mv : Value} (h : KeysAt w bk flip size off len mv) : w.cell? ⟨bk, 6, none⟩ = some (.int .i64 off) := by simp [World.cell?, h.out]
theorem KeysAt.c7 {w : World} {bk flip size off len : Nat} {mv : Value} (h : KeysAt w bk flip size off len mv) : w.cell? ⟨bk, 7, none⟩ = some (.int .i64 len) := by simp [World.cell?, h.out]
theorem KeysAt.c8 {w : World} {bk flip size off len : Nat} {mv : Value} (h : KeysAt w bk flip size off len mv) : w.cell? ⟨bk, 8, none⟩ = some (.bool false) := by simp [World.cell?, h.out]
theorem KeysAt.c10 {w : World} {bk flip size off len : Nat} {mv : Value} (h : KeysAt w bk flip size off len mv) : w.cell? ⟨bk, 10, none⟩ = some (.int .u64 0) := by simp [World.cell?, h.out]
theorem KeysAt.c11 {w : World} {bk flip size off len : Nat} {mv : Value} (h : KeysAt w bk flip size off len mv) : w.cell? ⟨bk, 11, none⟩ = some (.pointer none) := by simp [World.cell?, h.out]
theorem KeysAt.c13 {w : World} {bk flip size off len : Nat} {mv : Value} (h : KeysAt w bk flip size off len mv) : w.cell? ⟨bk, 13, none⟩ = some mv := by simp [World.cell?, h.out]
theorem KeysAt.lt {w : World} {bk flip size off len : Nat} {mv : Value} (h : KeysAt w bk flip size off len mv) : bk < w.heap.size := (Array.getElem?_eq_some_iff.1 h.out).1
theorem KeysAt.below {w w' : World} {bk flip size off len : Nat} {mv : Value} (h : KeysAt w bk flip size off len mv) {B : Nat} (hb : Below B w w') (hB : bk < B) : KeysAt w' bk flip size off len mv := by
  show _ = _
  rw [hb.block bk hB]; exact h.out

/-- The bytes xs are n cells from 'p' on, in an old block (no byte: whatever the address). -/
def BIn (w : World) (p : Option Addr) (n : Nat) (xs : List Nat) : Prop :=
  0 < n → ∃ b o, p = some ⟨b, o, none⟩ ∧ b < w.heap.size ∧ ∀ i, i < n → w.cell? ⟨b, o + i, none⟩ = some (.int .u8 (xs.getD i 0 : Nat))
theorem BIn.below {w w' : World} {p : Option Addr} {n : Nat} {xs : List Nat} (h : BIn w p n xs) {B : Nat} (hb : Below B w w') (hB : w.heap.size ≤ B) : BIn w' p n xs := fun hn => by
  obtain ⟨b, o, rfl, hl, hc⟩ := h hn
  exact ⟨b, o, rfl, Nat.lt_of_lt_of_le hl hb.size, fun i hi => by rw [hb.cell (p := ⟨b, o + i, none⟩) (Nat.lt_of_lt_of_le hl hB)]; exact hc i hi⟩
/-- Each number is a byte's. -/
def Byt (xs : List Nat) : Prop := ∀ i, xs.getD i 0 < 256

set_option maxHeartbeats 400000 in
theorem lines23 (bk flip size off len : Nat) (mv : Value) (w : World) (h : KeysAt w bk flip size off len mv) :
    Calls Tryd.prog 23 #[.pointer (some ⟨bk, 0, none⟩)] w fun e w' => e = .returned (.bool false) ∧ w' = w := by
  have c0 := h.c0
  go_enter Tryd.func23, Tryd.ntmps23
  go_wp2
  go_ret
  exact ⟨rfl, rfl⟩
set_option maxHeartbeats 400000 in
theorem keylen26 (bk flip size off len : Nat) (mv : Value) (w : World) (h : KeysAt w bk flip size off len mv) :
    Calls Tryd.prog 26 #[.pointer (some ⟨bk, 0, none⟩)] w fun e w' => e = .returned (.int .i64 len) ∧ w' = w := by
  have c11 := h.c11
  have c7 := h.c7
  go_enter Tryd.func26, Tryd.ntmps26
  go_wp2
  go_ret
  exact ⟨rfl, rfl⟩
set_option maxHeartbeats 400000 in
theorem bytes36 (bk flip size off len : Nat) (mv : Value) (w : World) (h : KeysAt w bk flip size off len mv) :
    Calls Tryd.prog 36 #[.pointer (some ⟨bk, 5, none⟩)] w fun e w' => e = .returned (.bool true) ∧ w' = w := by
  have c8 := h.c8
  have c10 := h.c10
  go_enter Tryd.func36, Tryd.ntmps36
  go_wp2
  go_ret
  exact ⟨rfl, rfl⟩

theorem flip_word : IntKind.u64.wrap (wrap64 (IntKind.i8.wrap 255)) = ((18446744073709551615 : Nat) : Int) := by
  rw [show IntKind.i8.wrap 255 = -1 from by decide]
  simp only [wrap64, IntKind.wrap_u64]
  omega

/-- flip, and flip in each byte of a word. -/
def Flips (flip F : Nat) : Prop := (flip = 0 ∧ F = 0) ∨ (flip = 255 ∧ F = 18446744073709551615)
set_option maxHeartbeats 400000 in
theorem flips35 (bk flip size off len F : Nat) (mv : Value) (w : World) (h : KeysAt w bk flip size off len mv) (hF : Flips flip F) :
    Calls Tryd.prog 35 #[.pointer (some ⟨bk, 0, none⟩)] w fun e w' => e = .returned (.int .u64 F) ∧ w' = w := by
  have c1 := h.c1
  rcases hF with ⟨rfl, rfl⟩ | ⟨rfl, rfl⟩
  · go_enter Tryd.func35, Tryd.ntmps35
    go_wp2
    go_ret
    exact ⟨rfl, rfl⟩
  · go_enter Tryd.func35, Tryd.ntmps35
    go_wp2
    go_ret
    exact ⟨ret_int flip_word, rfl⟩

set_option maxHeartbeats 400000 in
theorem new14 (flip size off len : Nat) (p : Option Addr) (n c : Nat) (w : World) :
    Calls Tryd.prog 14 #[.int .u8 flip, .int .i64 size, .int .i64 off, .int .i64 len, .slice p n c] w fun e w' => e = .returned (.pointer (some ⟨w.heap.size, 0, none⟩)) ∧ KeysAt w' w.heap.size flip size off len (.slice p n c) ∧ Below w.heap.size w w' := by
  go_enter Tryd.func14, Tryd.ntmps14
  go_wp2
  go_ret
  refine ⟨rfl, ?_, (Below.refl _ _).alloc (Nat.le_refl _) _⟩
  show (w.heap.push _)[w.heap.size]? = _
  simp
end Go.Proofs.Qxb6613005aDoor.Kw
