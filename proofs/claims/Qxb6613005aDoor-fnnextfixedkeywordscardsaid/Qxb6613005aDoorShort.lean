/-
  keyPrefix AT FEWER THAN EIGHT BYTES.
-/
import Derived.Test.Qxb6613005aDoorPlain
namespace Go.Proofs.Qxb6613005aDoor.Kw
open Go.RowKit

set_option maxRecDepth 100000 in
set_option maxHeartbeats 2000000 in
theorem pre_short (p : Option Addr) (n c : Nat) (xs : List Nat) (w : World) (hn : n < 8) (hx : Hid (xs.length = n)) (hB : BIn w p n xs) (hb : Byt xs) :
    Calls Tryd.prog 38 #[.slice p n c] w fun e w' => e = .returned (.int .u64 (word xs : Nat)) ∧ Below w.heap.size w w' := by
  rcases Nat.eq_zero_or_pos n with h0 | h0
  · subst h0
    obtain rfl : xs = [] := List.eq_nil_of_length_eq_zero hx.out
    go_enter Tryd.func38, Tryd.ntmps38
    go_wp2
    refine wp_loop_rounds 1 ?_
    rw [rounds_succ]
    go_wp2
    go_ret
    exact ⟨rfl, Below.refl _ _⟩
  · obtain ⟨b, o, rfl, hl, hc⟩ := hB h0
    have HC := hide hc
    have HB := hide hb
    clear hc hB hb
    go_enter Tryd.func38, Tryd.ntmps38
    go_wp2
    go_loop [3, 14] (fun x v => ∃ k : Nat, k ≤ n ∧ v = .int .i64 (k : Int) ∧ x = .int .u64 ((word (xs.take k) : Nat) : Int)) (fun _ v => n - (intOf v).toNat)
    case atStart => exact ⟨0, Nat.zero_le _, rfl, by rw [word_zero]; rfl⟩
    case round =>
      obtain ⟨k, hk, rfl, rfl⟩ := hrel
      by_cases hlt : k < n
      · have c0 := unhide HC k hlt
        have hx256 := unhide HB k
        have hst := word_step xs (unhide HB) k (2 ^ (56 - 8 * k)) (by omega) rfl
        obtain ⟨u, hu⟩ : ∃ u, u = xs.getD k 0 := ⟨_, rfl⟩
        rw [← hu] at c0 hx256 hst
        obtain ⟨X, hX⟩ : ∃ X, X = word (xs.take k) := ⟨_, rfl⟩
        rw [← hX] at hst ⊢
        obtain ⟨Y, hY⟩ : ∃ Y, Y = word (xs.take (k + 1)) := ⟨_, rfl⟩
        rw [← hY] at hst
        have HY := hide hY
        clear hu hX hY
        have hcase : k = 0 ∨ k = 1 ∨ k = 2 ∨ k = 3 ∨ k = 4 ∨ k = 5 ∨ k = 6 := by omega
        rcases hcase with rfl | rfl | rfl | rfl | rfl | rfl | rfl
        all_goals
          simp at hst
          try rw [Nat.add_zero] at c0
          go_wp2
          go_round
          case rel => exact ⟨_, hlt, by go_num, by rw [← unhide HY]⟩
          case measure => simp [intOf]; omega
      · obtain rfl : k = n := by omega
        have hW : xs.take k = xs := List.take_of_length_le (Nat.le_of_eq hx.out)
        rw [hW]
        go_wp2
        go_ret
        exact ⟨rfl, Below.refl _ _⟩

/-- keyPrefix: the first eight bytes as a word. -/
theorem pre38 (p : Option Addr) (n c : Nat) (xs : List Nat) (w : World) (hn2 : n ≤ 1048576) (hx : Hid (xs.length = n)) (hB : BIn w p n xs) (hb : Byt xs) :
    Calls Tryd.prog 38 #[.slice p n c] w fun e w' => e = .returned (.int .u64 (word xs : Nat)) ∧ Below w.heap.size w w' := by
  by_cases hn : n < 8
  · exact pre_short p n c xs w hn hx hB hb
  · exact pre_long p n c xs w (by omega) hn2 hB hb
end Go.Proofs.Qxb6613005aDoor.Kw
