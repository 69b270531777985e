/-
  THE CONTRACT OF wordIs.
-/
import Derived.Test.Qxb6613005aDoorNext
namespace Go.Proofs.Qxb6613005aDoor.Kw
open Go.RowKit

set_option maxRecDepth 100000 in
set_option maxHeartbeats 2000000 in
theorem is12 (p : Option Addr) (n c M W flip : Nat) (xs : List Nat) (w : World) (hn : n ≤ 1048576) (hx : Hid (xs.length = n)) (hB : Hid (BIn w p n xs)) (hM : M = min n 8) (_hW : W < 18446744073709551616)
    (hq : Hid (∀ k, k < 8 → xs.getD k 0 < 256 ∧ IntKind.u8.wrap ((W : Int) / ((2 ^ (56 - 8 * k) : Nat) : Int)) = bits BinOp.xor IntKind.u8 ((xs.getD k 0 : Nat) : Int) (flip : Int))) :
    Calls Tryd.prog 12 #[.int .u64 W, .int .i64 M, .slice p n c, .int .u8 flip] w fun e w' => e = .returned (.bool true) ∧ w' = w := by
  by_cases h8 : n ≤ 8
  · obtain rfl : M = n := by omega
    have g1 : decide ((M : Int) > 8) = false := by simp; omega
    clear hM
    go_enter Tryd.func12, Tryd.ntmps12
    go_wp2
    go_loop [10, 11] (fun i _ => ∃ k : Nat, k ≤ 8 ∧ i = .int .i64 (k : Int)) (fun i _ => 8 - (intOf i).toNat)
    case atStart => exact ⟨0, Nat.zero_le _, rfl⟩
    case round =>
      obtain ⟨k, hk, rfl⟩ := hrel
      by_cases hlt : k < 8
      · obtain ⟨hx256, hst⟩ := unhide hq k hlt
        by_cases hkM : k < M
        · obtain ⟨b, o, rfl, hl, hc⟩ := unhide hB (by omega)
          have c0 := hc k hkM
          obtain ⟨u, hu⟩ : ∃ u, u = xs.getD k 0 := ⟨_, rfl⟩
          rw [← hu] at c0 hx256 hst
          clear hu hc
          have hcase : k = 0 ∨ k = 1 ∨ k = 2 ∨ k = 3 ∨ k = 4 ∨ k = 5 ∨ k = 6 ∨ k = 7 := by omega
          rcases hcase with rfl | rfl | rfl | rfl | rfl | rfl | rfl | rfl
          all_goals
            simp at hst
            try rw [Nat.add_zero] at c0
            go_wp2
            go_round
            case rel => exact ⟨_, hlt, by go_num⟩
            case measure => simp [intOf]
        · have hu : xs.getD k 0 = 0 := by
            have := unhide hx
            simp [List.getD, List.getElem?_eq_none (show xs.length ≤ k by omega)]
          rw [hu] at hst hx256
          clear hu
          have hcase : k = 0 ∨ k = 1 ∨ k = 2 ∨ k = 3 ∨ k = 4 ∨ k = 5 ∨ k = 6 ∨ k = 7 := by omega
          rcases hcase with rfl | rfl | rfl | rfl | rfl | rfl | rfl | rfl
          all_goals
            simp at hst
            go_wp2
            go_round
            case rel => exact ⟨_, hlt, by go_num⟩
            case measure => simp [intOf]
      · obtain rfl : k = 8 := by omega
        go_wp2
        go_ret
        exact ⟨rfl, rfl⟩
  · obtain rfl : M = 8 := by omega
    have g1 : decide ((n : Int) > 8) = true := by simp; omega
    clear hM
    go_enter Tryd.func12, Tryd.ntmps12
    go_wp2
    go_loop [10, 11] (fun i _ => ∃ k : Nat, k ≤ 8 ∧ i = .int .i64 (k : Int)) (fun i _ => 8 - (intOf i).toNat)
    case atStart => exact ⟨0, Nat.zero_le _, rfl⟩
    case round =>
      obtain ⟨k, hk, rfl⟩ := hrel
      by_cases hlt : k < 8
      · obtain ⟨hx256, hst⟩ := unhide hq k hlt
        by_cases hkM : k < n
        · obtain ⟨b, o, rfl, hl, hc⟩ := unhide hB (by omega)
          have c0 := hc k hkM
          obtain ⟨u, hu⟩ : ∃ u, u = xs.getD k 0 := ⟨_, rfl⟩
          rw [← hu] at c0 hx256 hst
          clear hu hc
          have hcase : k = 0 ∨ k = 1 ∨ k = 2 ∨ k = 3 ∨ k = 4 ∨ k = 5 ∨ k = 6 ∨ k = 7 := by omega
          rcases hcase with rfl | rfl | rfl | rfl | rfl | rfl | rfl | rfl
          all_goals
            simp at hst
            try rw [Nat.add_zero] at c0
            go_wp2
            go_round
            case rel => exact ⟨_, hlt, by go_num⟩
            case measure => simp [intOf]
        · omega
      · obtain rfl : k = 8 := by omega
        go_wp2
        go_ret
        exact ⟨rfl, rfl⟩
end Go.Proofs.Qxb6613005aDoor.Kw
