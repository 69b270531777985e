/-
  THE CONTRACTS OF bigEndian.Uint64 AND keyPrefix.
-/
import Derived.Test.Qxb6613005aDoorBase
namespace Go.Proofs.Qxb6613005aDoor.Kw
open Go.RowKit

/-- Eight bytes as a big-endian number. -/
def cat (x0 x1 x2 x3 x4 x5 x6 x7 : Nat) : Nat := x0 * 72057594037927936 + x1 * 281474976710656 + x2 * 1099511627776 + x3 * 4294967296 + x4 * 16777216 + x5 * 65536 + x6 * 256 + x7

theorem or_up (k M a x : Nat) (hM : M = 2 ^ k) (ha : a < M) (hx : x < 256) (hk : M * 256 ≤ 18446744073709551616) : bits BinOp.or IntKind.u64 (a : Int) ((x : Int) * (M : Int)) = ((a + x * M : Nat) : Int) := by
  have h1 : x * M ≤ 255 * M := Nat.mul_le_mul_right M (by omega)
  rw [show ((x : Int) * (M : Int)) = ((x * M : Nat) : Int) from (Int.natCast_mul x M).symm, u64_or_nat a (x * M) (by omega) (by omega)]
  congr 1
  rw [Nat.or_comm, Nat.mul_comm x M, hM]
  rw [hM] at ha
  rw [← Nat.two_pow_add_eq_or_of_lt ha]
  omega
/-- The same, the new byte below what is there. -/
theorem or_down (k M a x : Nat) (hM : M = 2 ^ k) (ha : a % (M * 256) = 0) (ha2 : a < 18446744073709551616) (hx : x < 256) (hk : M * 256 ≤ 18446744073709551616) : bits BinOp.or IntKind.u64 (a : Int) ((x : Int) * (M : Int)) = ((a + x * M : Nat) : Int) := by
  have h1 : x * M ≤ 255 * M := Nat.mul_le_mul_right M (by omega)
  have h2 : 255 * M < M * 256 := by
    have : 0 < M := by rw [hM]; exact Nat.two_pow_pos k
    omega
  rw [show ((x : Int) * (M : Int)) = ((x * M : Nat) : Int) from (Int.natCast_mul x M).symm, u64_or_nat a (x * M) (by omega) (by omega)]
  congr 1
  have e : M * 256 = 2 ^ (k + 8) := by rw [hM, Nat.pow_add]
  have hd : a = 2 ^ (k + 8) * (a / 2 ^ (k + 8)) := by
    have := Nat.div_add_mod a (2 ^ (k + 8))
    rw [e] at ha
    omega
  have h3 : x * M < 2 ^ (k + 8) := by rw [← e]; omega
  rw [hd, ← Nat.two_pow_add_eq_or_of_lt h3]

theorem or_all (x0 x1 x2 x3 x4 x5 x6 x7 : Nat) (h0 : x0 < 256) (h1 : x1 < 256) (h2 : x2 < 256) (h3 : x3 < 256) (h4 : x4 < 256) (h5 : x5 < 256) (h6 : x6 < 256) (h7 : x7 < 256) :
    bits BinOp.or IntKind.u64 (bits BinOp.or IntKind.u64 (bits BinOp.or IntKind.u64 (bits BinOp.or IntKind.u64 (bits BinOp.or IntKind.u64 (bits BinOp.or IntKind.u64 (bits BinOp.or IntKind.u64 (x7 : Int) ((x6 : Int) * 256)) ((x5 : Int) * 65536)) ((x4 : Int) * 16777216)) ((x3 : Int) * 4294967296)) ((x2 : Int) * 1099511627776)) ((x1 : Int) * 281474976710656)) ((x0 : Int) * 72057594037927936) = ((cat x0 x1 x2 x3 x4 x5 x6 x7 : Nat) : Int) := by
  have e1 := or_up 8 256 x7 x6 rfl h7 h6 (by omega)
  have e2 := or_up 16 65536 (x7 + x6 * 256) x5 rfl (by omega) h5 (by omega)
  have e3 := or_up 24 16777216 (x7 + x6 * 256 + x5 * 65536) x4 rfl (by omega) h4 (by omega)
  have e4 := or_up 32 4294967296 (x7 + x6 * 256 + x5 * 65536 + x4 * 16777216) x3 rfl (by omega) h3 (by omega)
  have e5 := or_up 40 1099511627776 (x7 + x6 * 256 + x5 * 65536 + x4 * 16777216 + x3 * 4294967296) x2 rfl (by omega) h2 (by omega)
  have e6 := or_up 48 281474976710656 (x7 + x6 * 256 + x5 * 65536 + x4 * 16777216 + x3 * 4294967296 + x2 * 1099511627776) x1 rfl (by omega) h1 (by omega)
  have e7 := or_up 56 72057594037927936 (x7 + x6 * 256 + x5 * 65536 + x4 * 16777216 + x3 * 4294967296 + x2 * 1099511627776 + x1 * 281474976710656) x0 rfl (by omega) h0 (by omega)
  simp only [Int.cast_ofNat_Int] at e1 e2 e3 e4 e5 e6 e7
  rw [e1, e2, e3, e4, e5, e6, e7]
  unfold cat
  omega

set_option maxRecDepth 100000 in
set_option maxHeartbeats 1000000 in
theorem be42 (b o n c : Nat) (x0 x1 x2 x3 x4 x5 x6 x7 : Nat) (w : World) (hn : 8 ≤ n) (hn2 : n ≤ 1048576)
    (c0 : w.cell? ⟨b, o, none⟩ = some (.int .u8 x0)) (c1 : w.cell? ⟨b, o + 1, none⟩ = some (.int .u8 x1)) (c2 : w.cell? ⟨b, o + 2, none⟩ = some (.int .u8 x2)) (c3 : w.cell? ⟨b, o + 3, none⟩ = some (.int .u8 x3))
    (c4 : w.cell? ⟨b, o + 4, none⟩ = some (.int .u8 x4)) (c5 : w.cell? ⟨b, o + 5, none⟩ = some (.int .u8 x5)) (c6 : w.cell? ⟨b, o + 6, none⟩ = some (.int .u8 x6)) (c7 : w.cell? ⟨b, o + 7, none⟩ = some (.int .u8 x7))
    (h0 : x0 < 256) (h1 : x1 < 256) (h2 : x2 < 256) (h3 : x3 < 256) (h4 : x4 < 256) (h5 : x5 < 256) (h6 : x6 < 256) (h7 : x7 < 256) (hb : b < w.heap.size) :
    Calls Tryd.prog 42 #[.agg #[], .slice (some ⟨b, o, none⟩) n c] w fun e w' => e = .returned (.int .u64 (cat x0 x1 x2 x3 x4 x5 x6 x7 : Nat)) ∧ Below w.heap.size w w' := by
  go_enter Tryd.func42, Tryd.ntmps42
  go_wp2
  go_quiet (fail)
  go_wp2
  go_ret
  exact ⟨ret_int (or_all x0 x1 x2 x3 x4 x5 x6 x7 h0 h1 h2 h3 h4 h5 h6 h7), ((Below.refl _ _).alloc (Nat.le_refl _) (.cells #[] 79)).trans ⟨rfl, rfl, rfl, Nat.le_refl _, fun _ _ => rfl⟩⟩

/-- The first eight bytes, zeros behind the last, as a big-endian number. -/
def word (xs : List Nat) : Nat := cat (xs.getD 0 0) (xs.getD 1 0) (xs.getD 2 0) (xs.getD 3 0) (xs.getD 4 0) (xs.getD 5 0) (xs.getD 6 0) (xs.getD 7 0)
theorem word_lt {xs : List Nat} (h : Byt xs) : word xs < 18446744073709551616 := by
  have a0 := h 0; have a1 := h 1; have a2 := h 2; have a3 := h 3; have a4 := h 4; have a5 := h 5; have a6 := h 6; have a7 := h 7
  unfold word cat
  omega
theorem Byt.take {xs : List Nat} (h : Byt xs) (k : Nat) : Byt (xs.take k) := fun i => by
  by_cases hi : i < k
  · have := h i
    simpa [List.getD, hi] using this
  · simp [List.getD, List.getElem?_take, hi]

set_option maxRecDepth 100000 in
set_option maxHeartbeats 1000000 in
theorem pre_long (p : Option Addr) (n c : Nat) (xs : List Nat) (w : World) (hn : 8 ≤ n) (hn2 : n ≤ 1048576) (hB : BIn w p n xs) (hb : Byt xs) :
    Calls Tryd.prog 38 #[.slice p n c] w fun e w' => e = .returned (.int .u64 (word xs : Nat)) ∧ Below w.heap.size w w' := by
  obtain ⟨b, o, rfl, hl, hc⟩ := hB (by omega)
  have hbe := be42 b o n c _ _ _ _ _ _ _ _ w hn hn2 (hc 0 (by omega)) (hc 1 (by omega)) (hc 2 (by omega)) (hc 3 (by omega)) (hc 4 (by omega)) (hc 5 (by omega)) (hc 6 (by omega)) (hc 7 (by omega)) (hb 0) (hb 1) (hb 2) (hb 3) (hb 4) (hb 5) (hb 6) (hb 7) hl
  have HW : Hid (cat (xs.getD 0 0) (xs.getD 1 0) (xs.getD 2 0) (xs.getD 3 0) (xs.getD 4 0) (xs.getD 5 0) (xs.getD 6 0) (xs.getD 7 0) = word xs) := rfl
  rw [unhide HW] at hbe
  obtain ⟨W, hW⟩ : ∃ W, W = word xs := ⟨_, rfl⟩
  rw [← hW] at hbe ⊢
  clear hc HW hW
  go_enter Tryd.func38, Tryd.ntmps38
  go_wp2_with (go_at_call 42; refine hbe.mono ?_; rintro e w1 ⟨rfl, b1⟩)
  go_ret
  exact ⟨rfl, b1⟩

theorem getD_take (xs : List Nat) (k i : Nat) : (xs.take k).getD i 0 = if i < k then xs.getD i 0 else 0 := by
  by_cases hi : i < k <;> simp [List.getD, List.getElem?_take, hi]

end Go.Proofs.Qxb6613005aDoor.Kw
