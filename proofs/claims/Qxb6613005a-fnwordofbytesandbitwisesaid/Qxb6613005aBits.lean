/-
  THE WALK OF 'FnWordOfBytesAndBitwise'.
-/
import Derived.Test.Qxb6613005aWord
namespace Go.Proofs.Qxb6613005a.Wd
open Go.RowKit

set_option maxRecDepth 100000 in
set_option maxHeartbeats 2000000 in
theorem bits_all' (b c : Nat) (hb : b < 256) (hc : c < 256) (w : World) : Calls Try.prog 3 #[.int .u8 b, .int .u8 c] w fun e w' => e = .returned (.bool true) ∧ Grown w w' := by
  obtain ⟨B, hB⟩ : ∃ B, Hid (B = wordN b) := ⟨_, rfl⟩
  obtain ⟨C, hC⟩ : ∃ C, Hid (C = wordN c) := ⟨_, rfl⟩
  have hBl : B < 18446744073709551616 := by rw [unhide hB]; exact wordN_lt hb
  have hCl : C < 18446744073709551616 := by rw [unhide hC]; exact wordN_lt hc
  have k1 := word5 b B hB hb w
  have k2 := word5 c C hC hc w
  obtain ⟨X, hX⟩ : ∃ X, Hid (X = wordN (b ^^^ c)) := ⟨_, rfl⟩
  obtain ⟨O, hO⟩ : ∃ O, Hid (O = wordN (b ||| c)) := ⟨_, rfl⟩
  obtain ⟨A, hA⟩ : ∃ A, Hid (A = wordN (b &&& c)) := ⟨_, rfl⟩
  have kx := word5 (b ^^^ c) X hX (Nat.xor_lt_two_pow (n := 8) hb hc) w
  have ko := word5 (b ||| c) O hO (Nat.or_lt_two_pow (n := 8) hb hc) w
  have ka := word5 (b &&& c) A hA (Nat.and_lt_two_pow (n := 8) _ hc) w
  have ex : bits BinOp.xor IntKind.u64 (B : Int) (C : Int) = (X : Int) := by rw [u64_xor_nat B C hBl hCl, unhide hB, unhide hC, word_xor b c hb hc, ← unhide hX]
  have eo : bits BinOp.or IntKind.u64 (B : Int) (C : Int) = (O : Int) := by rw [u64_or_nat B C hBl hCl, unhide hB, unhide hC, word_or b c hb hc, ← unhide hO]
  have ea : bits BinOp.and IntKind.u64 (B : Int) (C : Int) = (A : Int) := by rw [u64_and_nat B C hBl hCl, unhide hB, unhide hC, word_and b c hb hc, ← unhide hA]
  have e8x : bits BinOp.xor IntKind.u8 (b : Int) (c : Int) = ((b ^^^ c : Nat) : Int) := u8_xor_nat b c hb hc
  have e8o : bits BinOp.or IntKind.u8 (b : Int) (c : Int) = ((b ||| c : Nat) : Int) := u8_or_nat b c hb hc
  have e8a : bits BinOp.and IntKind.u8 (b : Int) (c : Int) = ((b &&& c : Nat) : Int) := u8_and_nat b c hb hc
  obtain ⟨m1, m2, m3, m4, m5, m6, m7, m8⟩ := byte_of hB hb
  go_enter Try.func3, Try.ntmps3
  go_wp2_with (first
    | (with_reducible show Calls _ 5 #[Value.int .u8 ((b : Nat) : Int)] _ _; refine k1.mono ?_; rintro e w' ⟨rfl, rfl⟩)
    | (with_reducible show Calls _ 5 #[Value.int .u8 ((c : Nat) : Int)] _ _; refine k2.mono ?_; rintro e w' ⟨rfl, rfl⟩))
  go_loop [7] (fun v => ∃ k : Nat, k ≤ 8 ∧ v = .int .i64 (k : Int)) (fun v => 8 - (intOf v).toNat)
  case atStart => exact ⟨0, Nat.zero_le _, rfl⟩
  case round =>
    obtain ⟨k, hk, rfl⟩ := hrel
    have g1 : (B : Int) % 256 = (b : Int) := by omega
    have g2 : (B : Int) / 256 % 256 = (b : Int) := by omega
    have g3 : (B : Int) / 65536 % 256 = (b : Int) := by omega
    have g4 : (B : Int) / 16777216 % 256 = (b : Int) := by omega
    have g5 : (B : Int) / 4294967296 % 256 = (b : Int) := by omega
    have g6 : (B : Int) / 1099511627776 % 256 = (b : Int) := by omega
    have g7 : (B : Int) / 281474976710656 % 256 = (b : Int) := by omega
    have g8 : (B : Int) / 72057594037927936 = (b : Int) := by omega
    clear m1 m2 m3 m4 m5 m6 m7 m8
    by_cases h8 : k = 8
    · subst h8
      clear g1 g2 g3 g4 g5 g6 g7 g8
      go_wp2_with (first
        | (with_reducible show Calls _ 5 #[Value.int .u8 ((b ^^^ c : Nat) : Int)] _ _; refine kx.mono ?_; rintro e w' ⟨rfl, rfl⟩)
        | (with_reducible show Calls _ 5 #[Value.int .u8 ((b ||| c : Nat) : Int)] _ _; refine ko.mono ?_; rintro e w' ⟨rfl, rfl⟩)
        | (with_reducible show Calls _ 5 #[Value.int .u8 ((b &&& c : Nat) : Int)] _ _; refine ka.mono ?_; rintro e w' ⟨rfl, rfl⟩))
      go_ret
      exact ⟨rfl, Grown.refl _⟩
    · have hk7 : k = 0 ∨ k = 1 ∨ k = 2 ∨ k = 3 ∨ k = 4 ∨ k = 5 ∨ k = 6 ∨ k = 7 := by omega
      clear ex eo ea e8x e8o e8a kx ko ka k1 k2
      rcases hk7 with rfl | rfl | rfl | rfl | rfl | rfl | rfl | rfl
      · go_wp2
        exact ⟨⟨1, by omega, rfl⟩, by simp [intOf]⟩
      · go_wp2
        exact ⟨⟨2, by omega, rfl⟩, by simp [intOf]⟩
      · go_wp2
        exact ⟨⟨3, by omega, rfl⟩, by simp [intOf]⟩
      · go_wp2
        exact ⟨⟨4, by omega, rfl⟩, by simp [intOf]⟩
      · go_wp2
        exact ⟨⟨5, by omega, rfl⟩, by simp [intOf]⟩
      · go_wp2
        exact ⟨⟨6, by omega, rfl⟩, by simp [intOf]⟩
      · go_wp2
        exact ⟨⟨7, by omega, rfl⟩, by simp [intOf]⟩
      · go_wp2
        exact ⟨⟨8, by omega, rfl⟩, by simp [intOf]⟩

/-- THE WALK OF 'FnWordOfBytesAndBitwise', WHOLE. -/
theorem bits_all (a0 a1 : Int) (w0 : (Lit.int .u8 a0).wf = true) (w1 : (Lit.int .u8 a1).wf = true) (w : World) : Calls Try.prog 3 #[.int .u8 a0, .int .u8 a1] w fun e w' => e = .returned (.bool true) ∧ Grown w w' := by
  have h0 := bounds_u8 w0
  have h1 := bounds_u8 w1
  obtain ⟨b, rfl⟩ := Int.eq_ofNat_of_zero_le h0.1
  obtain ⟨c, rfl⟩ := Int.eq_ofNat_of_zero_le h1.1
  exact bits_all' b c (by omega) (by omega) w
end Go.Proofs.Qxb6613005a.Wd
