/-
  THE WORD WHOSE EIGHT BYTES ARE EACH b: plain laws, and the contract of ZZwordOf.
-/
import Derived.Test.Qxb6613005aRows
import Derived.WalkKit
import Derived.ProofKit
import Derived.Outline
import Derived.Handy
namespace Go.Proofs.Qxb6613005a.Wd
open Go.RowKit

/-- The word whose eight bytes are each b. -/
def wordN (b : Nat) : Nat := 72340172838076673 * b

theorem wordN_lt {b : Nat} (h : b < 256) : wordN b < 18446744073709551616 := by unfold wordN; omega

theorem step (b : Nat) : wordN b = 2 ^ 8 * (2 ^ 8 * (2 ^ 8 * (2 ^ 8 * (2 ^ 8 * (2 ^ 8 * (2 ^ 8 * b + b) + b) + b) + b) + b) + b) + b := by unfold wordN; omega

theorem xor_step (x y a b : Nat) (ha : a < 2 ^ 8) (hb : b < 2 ^ 8) : (2 ^ 8 * x + a) ^^^ (2 ^ 8 * y + b) = 2 ^ 8 * (x ^^^ y) + (a ^^^ b) := by
  apply Nat.eq_of_testBit_eq
  intro i
  rw [Nat.testBit_xor, Nat.testBit_two_pow_mul_add x ha, Nat.testBit_two_pow_mul_add y hb, Nat.testBit_two_pow_mul_add _ (Nat.xor_lt_two_pow ha hb)]
  split <;> simp [Nat.testBit_xor]
theorem or_step (x y a b : Nat) (ha : a < 2 ^ 8) (hb : b < 2 ^ 8) : (2 ^ 8 * x + a) ||| (2 ^ 8 * y + b) = 2 ^ 8 * (x ||| y) + (a ||| b) := by
  apply Nat.eq_of_testBit_eq
  intro i
  rw [Nat.testBit_or, Nat.testBit_two_pow_mul_add x ha, Nat.testBit_two_pow_mul_add y hb, Nat.testBit_two_pow_mul_add _ (Nat.or_lt_two_pow ha hb)]
  split <;> simp [Nat.testBit_or]
theorem and_step (x y a b : Nat) (ha : a < 2 ^ 8) (hb : b < 2 ^ 8) : (2 ^ 8 * x + a) &&& (2 ^ 8 * y + b) = 2 ^ 8 * (x &&& y) + (a &&& b) := by
  apply Nat.eq_of_testBit_eq
  intro i
  rw [Nat.testBit_and, Nat.testBit_two_pow_mul_add x ha, Nat.testBit_two_pow_mul_add y hb, Nat.testBit_two_pow_mul_add _ (Nat.and_lt_two_pow _ hb)]
  split <;> simp [Nat.testBit_and]

theorem word_xor (b c : Nat) (hb : b < 2 ^ 8) (hc : c < 2 ^ 8) : wordN b ^^^ wordN c = wordN (b ^^^ c) := by
  rw [step b, step c, step (b ^^^ c)]
  simp only [xor_step _ _ b c hb hc]
theorem word_or (b c : Nat) (hb : b < 2 ^ 8) (hc : c < 2 ^ 8) : wordN b ||| wordN c = wordN (b ||| c) := by
  rw [step b, step c, step (b ||| c)]
  simp only [or_step _ _ b c hb hc]
theorem word_and (b c : Nat) (hb : b < 2 ^ 8) (hc : c < 2 ^ 8) : wordN b &&& wordN c = wordN (b &&& c) := by
  rw [step b, step c, step (b &&& c)]
  simp only [and_step _ _ b c hb hc]

theorem ret_int {k : IntKind} {a b : Int} (h : a = b) : Ending.returned (.int k a) = .returned (.int k b) := by rw [h]
theorem hide {p : Prop} (h : p) : Hid p := h
theorem unhide {p : Prop} (h : Hid p) : p := h

set_option maxHeartbeats 400000 in
theorem word5 (b : Nat) (W : Nat) (hW : Hid (W = wordN b)) (hb : b < 256) (w : World) : Calls Try.prog 5 #[.int .u8 b] w fun e w' => e = .returned (.int .u64 (W : Int)) ∧ w = w' := by
  go_enter Try.func5, Try.ntmps5
  go_wp2
  go_ret
  exact ⟨ret_int (by rw [unhide hW]; unfold wordN; omega), rfl⟩

theorem byte_of {W b : Nat} (hW : Hid (W = wordN b)) (hb : b < 256) : W % 256 = b ∧ W / 256 % 256 = b ∧ W / 65536 % 256 = b ∧ W / 16777216 % 256 = b ∧ W / 4294967296 % 256 = b ∧ W / 1099511627776 % 256 = b ∧ W / 281474976710656 % 256 = b ∧ W / 72057594037927936 = b := by
  have h := unhide hW
  unfold wordN at h
  have q1 : W / 256 = 282578800148737 * b := by omega
  have q2 : W / 65536 = 1103823438081 * b := by omega
  have q3 : W / 16777216 = 4311810305 * b := by omega
  have q4 : W / 4294967296 = 16843009 * b := by omega
  have q5 : W / 1099511627776 = 65793 * b := by omega
  have q6 : W / 281474976710656 = 257 * b := by omega
  have q7 : W / 72057594037927936 = b := by omega
  rw [q1, q2, q3, q4, q5, q6, q7]
  clear q1 q2 q3 q4 q5 q6 q7
  refine ⟨?_, ?_, ?_, ?_, ?_, ?_, ?_, rfl⟩ <;> omega

set_option maxHeartbeats 1000000 in
theorem order_lt (b c : Nat) (hbc : b < c) (hc : c < 256) (w : World) : Calls Try.prog 4 #[.int .u8 b, .int .u8 c] w fun e w' => e = .returned (.bool true) ∧ Grown w w' := by
  obtain ⟨B, hB⟩ : ∃ B, Hid (B = wordN b) := ⟨_, rfl⟩
  obtain ⟨C, hC⟩ : ∃ C, Hid (C = wordN c) := ⟨_, rfl⟩
  obtain ⟨D, hD⟩ : ∃ D, Hid (D = wordN (c - b)) := ⟨_, rfl⟩
  have hCl : C < 18446744073709551616 := by rw [unhide hC]; exact wordN_lt hc
  have hCB : C = B + D ∧ 0 < D := by rw [unhide hC, unhide hB, unhide hD]; unfold wordN; omega
  have k1 := word5 b B hB (by omega) w
  have k2 := word5 c C hC hc w
  have k3 := word5 (c - b) D hD (by omega) w
  rw [show ((c - b : Nat) : Int) = (c : Int) - (b : Int) from by omega] at k3
  obtain ⟨m1, m2, m3, m4, m5, m6, m7, m8⟩ := byte_of hB (show b < 256 by omega)
  have t6 : ((B : Int) % 256 == (b : Int)) = true := by simp; omega
  have t7 : ((B : Int) / 72057594037927936 == (b : Int)) = true := by simp; omega
  have t1 : decide ((b : Int) < (c : Int)) = true := by simp; omega
  have t2 : decide ((B : Int) < (C : Int)) = true := by simp; omega
  have t3 : ((b : Int) == (c : Int)) = false := by simp; omega
  have t4 : ((B : Int) == (C : Int)) = false := by simp; omega
  have t5 : ((C : Int) - (B : Int) != (D : Int)) = false := by simp; omega
  have hBC : B < C := by omega
  clear m1 m2 m3 m4 m5 m6 m7 m8 hCB
  go_enter Try.func4, Try.ntmps4
  go_wp2_with (first
    | (with_reducible show Calls _ 5 #[Value.int .u8 ((b : Nat) : Int)] _ _; refine k1.mono ?_; rintro e w' ⟨rfl, rfl⟩)
    | (with_reducible show Calls _ 5 #[Value.int .u8 ((c : Nat) : Int)] _ _; refine k2.mono ?_; rintro e w' ⟨rfl, rfl⟩)
    | (go_at_call 5; refine k3.mono ?_; rintro e w' ⟨rfl, rfl⟩))
  go_ret
  exact ⟨rfl, Grown.refl _⟩

set_option maxHeartbeats 1000000 in
theorem order_gt (b c : Nat) (hbc : c < b) (hb : b < 256) (w : World) : Calls Try.prog 4 #[.int .u8 b, .int .u8 c] w fun e w' => e = .returned (.bool true) ∧ Grown w w' := by
  obtain ⟨B, hB⟩ : ∃ B, Hid (B = wordN b) := ⟨_, rfl⟩
  obtain ⟨C, hC⟩ : ∃ C, Hid (C = wordN c) := ⟨_, rfl⟩
  obtain ⟨D, hD⟩ : ∃ D, Hid (D = wordN (b - c)) := ⟨_, rfl⟩
  have hCl : B < 18446744073709551616 := by rw [unhide hB]; exact wordN_lt hb
  have hCB : B = C + D ∧ 0 < D := by rw [unhide hC, unhide hB, unhide hD]; unfold wordN; omega
  have k1 := word5 b B hB hb w
  have k2 := word5 c C hC (by omega) w
  have k3 := word5 (b - c) D hD (by omega) w
  rw [show ((b - c : Nat) : Int) = (b : Int) - (c : Int) from by omega] at k3
  obtain ⟨m1, m2, m3, m4, m5, m6, m7, m8⟩ := byte_of hB (show b < 256 by omega)
  have t6 : ((B : Int) % 256 == (b : Int)) = true := by simp; omega
  have t7 : ((B : Int) / 72057594037927936 == (b : Int)) = true := by simp; omega
  have t1 : decide ((b : Int) < (c : Int)) = false := by simp; omega
  have t2 : decide ((B : Int) < (C : Int)) = false := by simp; omega
  have t3 : ((b : Int) == (c : Int)) = false := by simp; omega
  have t4 : ((B : Int) == (C : Int)) = false := by simp; omega
  have t5 : ((B : Int) - (C : Int) != (D : Int)) = false := by simp; omega
  have t8 : decide ((b : Int) ≤ (c : Int)) = false := by simp; omega
  have n1 : decide (b < c) = false := by simp; omega
  have n2 : decide (B < C) = false := by simp; omega
  have n8 : decide (b ≤ c) = false := by simp; omega
  have hBC : C < B := by omega
  clear m1 m2 m3 m4 m5 m6 m7 m8 hCB
  go_enter Try.func4, Try.ntmps4
  go_wp2_with (first
    | (with_reducible show Calls _ 5 #[Value.int .u8 ((b : Nat) : Int)] _ _; refine k1.mono ?_; rintro e w' ⟨rfl, rfl⟩)
    | (with_reducible show Calls _ 5 #[Value.int .u8 ((c : Nat) : Int)] _ _; refine k2.mono ?_; rintro e w' ⟨rfl, rfl⟩)
    | (go_at_call 5; refine k3.mono ?_; rintro e w' ⟨rfl, rfl⟩))
  go_ret
  exact ⟨rfl, Grown.refl _⟩

set_option maxHeartbeats 1000000 in
theorem order_eq (b : Nat) (hb : b < 256) (w : World) : Calls Try.prog 4 #[.int .u8 b, .int .u8 b] w fun e w' => e = .returned (.bool true) ∧ Grown w w' := by
  obtain ⟨B, hB⟩ : ∃ B, Hid (B = wordN b) := ⟨_, rfl⟩
  have hCl : B < 18446744073709551616 := by rw [unhide hB]; exact wordN_lt hb
  have k1 := word5 b B hB hb w
  have k3 := word5 0 0 rfl (by omega) w
  rw [show ((0 : Nat) : Int) = 0 from rfl] at k3
  obtain ⟨m1, m2, m3, m4, m5, m6, m7, m8⟩ := byte_of hB (show b < 256 by omega)
  have t6 : ((B : Int) % 256 == (b : Int)) = true := by simp; omega
  have t7 : ((B : Int) / 72057594037927936 == (b : Int)) = true := by simp; omega
  clear m1 m2 m3 m4 m5 m6 m7 m8
  go_enter Try.func4, Try.ntmps4
  go_wp2_with (first
    | (with_reducible show Calls _ 5 #[Value.int .u8 ((b : Nat) : Int)] _ _; refine k1.mono ?_; rintro e w' ⟨rfl, rfl⟩)
    | (go_at_call 5; refine k3.mono ?_; rintro e w' ⟨rfl, rfl⟩))
  go_ret
  exact ⟨rfl, Grown.refl _⟩

/-- THE WALK OF 'FnWordOfOrderAndDifference', WHOLE. -/
theorem order_all (a0 a1 : Int) (w0 : (Lit.int .u8 a0).wf = true) (w1 : (Lit.int .u8 a1).wf = true) (w : World) : Calls Try.prog 4 #[.int .u8 a0, .int .u8 a1] w fun e w' => e = .returned (.bool true) ∧ Grown w w' := by
  have h0 := bounds_u8 w0
  have h1 := bounds_u8 w1
  obtain ⟨b, rfl⟩ := Int.eq_ofNat_of_zero_le h0.1
  obtain ⟨c, rfl⟩ := Int.eq_ofNat_of_zero_le h1.1
  rcases Nat.lt_trichotomy b c with h | h | h
  · exact order_lt b c h (by omega) w
  · subst h; exact order_eq b (by omega) w
  · exact order_gt b c h (by omega) w
end Go.Proofs.Qxb6613005a.Wd
