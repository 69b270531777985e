/-
  THE WORD OF A LIST'S FIRST BYTES.
-/
import Derived.Test.Qxb6613005aDoorPre
namespace Go.Proofs.Qxb6613005aDoor.Kw
open Go.RowKit

theorem word_take0 (xs : List Nat) : word (xs.take 0) = 0 := by
  unfold word cat
  rw [getD_take xs 0 0, if_neg (show ¬ 0 < 0 by omega), getD_take xs 0 1, if_neg (show ¬ 1 < 0 by omega), getD_take xs 0 2, if_neg (show ¬ 2 < 0 by omega), getD_take xs 0 3, if_neg (show ¬ 3 < 0 by omega), getD_take xs 0 4, if_neg (show ¬ 4 < 0 by omega), getD_take xs 0 5, if_neg (show ¬ 5 < 0 by omega), getD_take xs 0 6, if_neg (show ¬ 6 < 0 by omega), getD_take xs 0 7, if_neg (show ¬ 7 < 0 by omega)]
theorem word_take1 (xs : List Nat) : word (xs.take 1) = xs.getD 0 0 * 72057594037927936 := by
  unfold word cat
  rw [getD_take xs 1 0, if_pos (show 0 < 1 by omega), getD_take xs 1 1, if_neg (show ¬ 1 < 1 by omega), getD_take xs 1 2, if_neg (show ¬ 2 < 1 by omega), getD_take xs 1 3, if_neg (show ¬ 3 < 1 by omega), getD_take xs 1 4, if_neg (show ¬ 4 < 1 by omega), getD_take xs 1 5, if_neg (show ¬ 5 < 1 by omega), getD_take xs 1 6, if_neg (show ¬ 6 < 1 by omega), getD_take xs 1 7, if_neg (show ¬ 7 < 1 by omega)]
  omega
theorem word_take2 (xs : List Nat) : word (xs.take 2) = xs.getD 0 0 * 72057594037927936 + xs.getD 1 0 * 281474976710656 := by
  unfold word cat
  rw [getD_take xs 2 0, if_pos (show 0 < 2 by omega), getD_take xs 2 1, if_pos (show 1 < 2 by omega), getD_take xs 2 2, if_neg (show ¬ 2 < 2 by omega), getD_take xs 2 3, if_neg (show ¬ 3 < 2 by omega), getD_take xs 2 4, if_neg (show ¬ 4 < 2 by omega), getD_take xs 2 5, if_neg (show ¬ 5 < 2 by omega), getD_take xs 2 6, if_neg (show ¬ 6 < 2 by omega), getD_take xs 2 7, if_neg (show ¬ 7 < 2 by omega)]
  omega
theorem word_take3 (xs : List Nat) : word (xs.take 3) = xs.getD 0 0 * 72057594037927936 + xs.getD 1 0 * 281474976710656 + xs.getD 2 0 * 1099511627776 := by
  unfold word cat
  rw [getD_take xs 3 0, if_pos (show 0 < 3 by omega), getD_take xs 3 1, if_pos (show 1 < 3 by omega), getD_take xs 3 2, if_pos (show 2 < 3 by omega), getD_take xs 3 3, if_neg (show ¬ 3 < 3 by omega), getD_take xs 3 4, if_neg (show ¬ 4 < 3 by omega), getD_take xs 3 5, if_neg (show ¬ 5 < 3 by omega), getD_take xs 3 6, if_neg (show ¬ 6 < 3 by omega), getD_take xs 3 7, if_neg (show ¬ 7 < 3 by omega)]
  omega
theorem word_take4 (xs : List Nat) : word (xs.take 4) = xs.getD 0 0 * 72057594037927936 + xs.getD 1 0 * 281474976710656 + xs.getD 2 0 * 1099511627776 + xs.getD 3 0 * 4294967296 := by
  unfold word cat
  rw [getD_take xs 4 0, if_pos (show 0 < 4 by omega), getD_take xs 4 1, if_pos (show 1 < 4 by omega), getD_take xs 4 2, if_pos (show 2 < 4 by omega), getD_take xs 4 3, if_pos (show 3 < 4 by omega), getD_take xs 4 4, if_neg (show ¬ 4 < 4 by omega), getD_take xs 4 5, if_neg (show ¬ 5 < 4 by omega), getD_take xs 4 6, if_neg (show ¬ 6 < 4 by omega), getD_take xs 4 7, if_neg (show ¬ 7 < 4 by omega)]
  omega
theorem word_take5 (xs : List Nat) : word (xs.take 5) = xs.getD 0 0 * 72057594037927936 + xs.getD 1 0 * 281474976710656 + xs.getD 2 0 * 1099511627776 + xs.getD 3 0 * 4294967296 + xs.getD 4 0 * 16777216 := by
  unfold word cat
  rw [getD_take xs 5 0, if_pos (show 0 < 5 by omega), getD_take xs 5 1, if_pos (show 1 < 5 by omega), getD_take xs 5 2, if_pos (show 2 < 5 by omega), getD_take xs 5 3, if_pos (show 3 < 5 by omega), getD_take xs 5 4, if_pos (show 4 < 5 by omega), getD_take xs 5 5, if_neg (show ¬ 5 < 5 by omega), getD_take xs 5 6, if_neg (show ¬ 6 < 5 by omega), getD_take xs 5 7, if_neg (show ¬ 7 < 5 by omega)]
  omega
theorem word_take6 (xs : List Nat) : word (xs.take 6) = xs.getD 0 0 * 72057594037927936 + xs.getD 1 0 * 281474976710656 + xs.getD 2 0 * 1099511627776 + xs.getD 3 0 * 4294967296 + xs.getD 4 0 * 16777216 + xs.getD 5 0 * 65536 := by
  unfold word cat
  rw [getD_take xs 6 0, if_pos (show 0 < 6 by omega), getD_take xs 6 1, if_pos (show 1 < 6 by omega), getD_take xs 6 2, if_pos (show 2 < 6 by omega), getD_take xs 6 3, if_pos (show 3 < 6 by omega), getD_take xs 6 4, if_pos (show 4 < 6 by omega), getD_take xs 6 5, if_pos (show 5 < 6 by omega), getD_take xs 6 6, if_neg (show ¬ 6 < 6 by omega), getD_take xs 6 7, if_neg (show ¬ 7 < 6 by omega)]
  omega
theorem word_take7 (xs : List Nat) : word (xs.take 7) = xs.getD 0 0 * 72057594037927936 + xs.getD 1 0 * 281474976710656 + xs.getD 2 0 * 1099511627776 + xs.getD 3 0 * 4294967296 + xs.getD 4 0 * 16777216 + xs.getD 5 0 * 65536 + xs.getD 6 0 * 256 := by
  unfold word cat
  rw [getD_take xs 7 0, if_pos (show 0 < 7 by omega), getD_take xs 7 1, if_pos (show 1 < 7 by omega), getD_take xs 7 2, if_pos (show 2 < 7 by omega), getD_take xs 7 3, if_pos (show 3 < 7 by omega), getD_take xs 7 4, if_pos (show 4 < 7 by omega), getD_take xs 7 5, if_pos (show 5 < 7 by omega), getD_take xs 7 6, if_pos (show 6 < 7 by omega), getD_take xs 7 7, if_neg (show ¬ 7 < 7 by omega)]
  omega
theorem word_take8 (xs : List Nat) : word (xs.take 8) = xs.getD 0 0 * 72057594037927936 + xs.getD 1 0 * 281474976710656 + xs.getD 2 0 * 1099511627776 + xs.getD 3 0 * 4294967296 + xs.getD 4 0 * 16777216 + xs.getD 5 0 * 65536 + xs.getD 6 0 * 256 + xs.getD 7 0 * 1 := by
  unfold word cat
  rw [getD_take xs 8 0, if_pos (show 0 < 8 by omega), getD_take xs 8 1, if_pos (show 1 < 8 by omega), getD_take xs 8 2, if_pos (show 2 < 8 by omega), getD_take xs 8 3, if_pos (show 3 < 8 by omega), getD_take xs 8 4, if_pos (show 4 < 8 by omega), getD_take xs 8 5, if_pos (show 5 < 8 by omega), getD_take xs 8 6, if_pos (show 6 < 8 by omega), getD_take xs 8 7, if_pos (show 7 < 8 by omega)]
  omega
theorem word_zero (xs : List Nat) : word (xs.take 0) = 0 := word_take0 xs
/-- One byte more. -/
theorem word_step (xs : List Nat) (hb : Byt xs) (k M : Nat) (hk : k < 8) (hM : M = 2 ^ (56 - 8 * k)) :
    bits BinOp.or IntKind.u64 ((word (xs.take k) : Nat) : Int) (((xs.getD k 0 : Nat) : Int) * (M : Int)) = ((word (xs.take (k + 1)) : Nat) : Int) := by
  have a0 := hb 0; have a1 := hb 1; have a2 := hb 2; have a3 := hb 3; have a4 := hb 4; have a5 := hb 5; have a6 := hb 6; have a7 := hb 7
  have hl := word_lt (hb.take k)
  have hx := hb k
  have hcase : k = 0 ∨ k = 1 ∨ k = 2 ∨ k = 3 ∨ k = 4 ∨ k = 5 ∨ k = 6 ∨ k = 7 := by omega
  rcases hcase with rfl | rfl | rfl | rfl | rfl | rfl | rfl | rfl
  · have hM' : M = 72057594037927936 := hM
    subst hM'
    rw [or_down 56 72057594037927936 (word (xs.take 0)) (xs.getD 0 0) (by rfl) (by rw [word_take0]) hl hx (by omega), word_take0, word_take1]
    rw [Nat.zero_add]
  · have hM' : M = 281474976710656 := hM
    subst hM'
    rw [or_down 48 281474976710656 (word (xs.take 1)) (xs.getD 1 0) (by rfl) (by rw [word_take1]; omega) hl hx (by omega), word_take1, word_take2]
  · have hM' : M = 1099511627776 := hM
    subst hM'
    rw [or_down 40 1099511627776 (word (xs.take 2)) (xs.getD 2 0) (by rfl) (by rw [word_take2]; omega) hl hx (by omega), word_take2, word_take3]
  · have hM' : M = 4294967296 := hM
    subst hM'
    rw [or_down 32 4294967296 (word (xs.take 3)) (xs.getD 3 0) (by rfl) (by rw [word_take3]; omega) hl hx (by omega), word_take3, word_take4]
  · have hM' : M = 16777216 := hM
    subst hM'
    rw [or_down 24 16777216 (word (xs.take 4)) (xs.getD 4 0) (by rfl) (by rw [word_take4]; omega) hl hx (by omega), word_take4, word_take5]
  · have hM' : M = 65536 := hM
    subst hM'
    rw [or_down 16 65536 (word (xs.take 5)) (xs.getD 5 0) (by rfl) (by rw [word_take5]; omega) hl hx (by omega), word_take5, word_take6]
  · have hM' : M = 256 := hM
    subst hM'
    rw [or_down 8 256 (word (xs.take 6)) (xs.getD 6 0) (by rfl) (by rw [word_take6]; omega) hl hx (by omega), word_take6, word_take7]
  · have hM' : M = 1 := hM
    subst hM'
    rw [or_down 0 1 (word (xs.take 7)) (xs.getD 7 0) (by rfl) (by rw [word_take7]; omega) hl hx (by omega), word_take7, word_take8]

end Go.Proofs.Qxb6613005aDoor.Kw
