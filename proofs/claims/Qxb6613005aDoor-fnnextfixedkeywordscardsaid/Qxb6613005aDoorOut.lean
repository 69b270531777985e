/-
  THE WALK OF FnNextFixedKeyWords where one of its tests turns the input away.
-/
import Derived.Test.Qxb6613005aDoorLaw
namespace Go.Proofs.Qxb6613005aDoor.Kw
open Go.RowKit

set_option maxRecDepth 100000 in
set_option maxHeartbeats 1000000 in
theorem out1 (p : Option Addr) (n c : Nat) (a1 a2 a3 a4 a5 a6 : Int) (w : World) (hn : n ≤ 9223372036854775807) (h : ¬ n ≤ 1048576) :
    Calls Tryd.prog 4 #[.slice p n c, .int .u8 a1, .int .i64 a2, .int .i64 a3, .int .i64 a4, .int .i64 a5, .int .i64 a6] w fun e w' => e = .returned (.bool true) ∧ Below w.heap.size w w' := by
  have z := zz13 p n c (.int .u8 a1) (.int .i64 a2) (.int .i64 a3) (.int .i64 a4) (.int .i64 a5) (.int .i64 a6) w hn
  rw [decide_eq_false h] at z
  go_enter Tryd.func4, Tryd.ntmps4
  go_wp2_with (go_at_call 13; refine z.mono ?_; rintro e w' ⟨rfl, rfl⟩)
  go_ret
  exact ⟨rfl, Below.refl _ _⟩

set_option maxRecDepth 100000 in
set_option maxHeartbeats 1000000 in
theorem out2 (p : Option Addr) (n c : Nat) (a1 a2 a3 a4 a5 a6 : Int) (w : World) (hn : n ≤ 1048576) (h : ¬ a1 = 0) (h' : ¬ a1 = 255) :
    Calls Tryd.prog 4 #[.slice p n c, .int .u8 a1, .int .i64 a2, .int .i64 a3, .int .i64 a4, .int .i64 a5, .int .i64 a6] w fun e w' => e = .returned (.bool true) ∧ Below w.heap.size w w' := by
  have z := zz13 p n c (.int .u8 a1) (.int .i64 a2) (.int .i64 a3) (.int .i64 a4) (.int .i64 a5) (.int .i64 a6) w (by omega)
  rw [decide_eq_true hn] at z
  have u1 : ¬ 1048576 < n := by omega
  have u2 : (a1 != 0) = true := by simp [h]
  have u3 : (a1 != 255) = true := by simp [h']
  clear hn
  go_enter Tryd.func4, Tryd.ntmps4
  go_wp2_with (go_at_call 13; refine z.mono ?_; rintro e w' ⟨rfl, rfl⟩)
  go_ret
  exact ⟨rfl, Below.refl _ _⟩

set_option maxRecDepth 100000 in
set_option maxHeartbeats 1000000 in
theorem out3 (p : Option Addr) (n c : Nat) (a1 a2 a3 a4 a5 a6 : Int) (w : World) (hn : n ≤ 1048576) (ha : a1 = 0 ∨ a1 = 255) (h : a2 < 1) :
    Calls Tryd.prog 4 #[.slice p n c, .int .u8 a1, .int .i64 a2, .int .i64 a3, .int .i64 a4, .int .i64 a5, .int .i64 a6] w fun e w' => e = .returned (.bool true) ∧ Below w.heap.size w w' := by
  have z := zz13 p n c (.int .u8 a1) (.int .i64 a2) (.int .i64 a3) (.int .i64 a4) (.int .i64 a5) (.int .i64 a6) w (by omega)
  rw [decide_eq_true hn] at z
  have u1 : ¬ 1048576 < n := by omega
  have u2 : decide (a2 < 1) = true := by simp; omega
  clear hn
  rcases ha with rfl | rfl
  all_goals
    go_enter Tryd.func4, Tryd.ntmps4
    go_wp2_with (go_at_call 13; refine z.mono ?_; rintro e w' ⟨rfl, rfl⟩)
    go_ret
    exact ⟨rfl, Below.refl _ _⟩

set_option maxRecDepth 100000 in
set_option maxHeartbeats 1000000 in
theorem out4 (p : Option Addr) (n c : Nat) (a1 a2 a3 a4 a5 a6 : Int) (w : World) (hn : n ≤ 1048576) (ha : a1 = 0 ∨ a1 = 255) (h : ¬ a2 < 1) (h4 : (n : Int) < a2) :
    Calls Tryd.prog 4 #[.slice p n c, .int .u8 a1, .int .i64 a2, .int .i64 a3, .int .i64 a4, .int .i64 a5, .int .i64 a6] w fun e w' => e = .returned (.bool true) ∧ Below w.heap.size w w' := by
  have z := zz13 p n c (.int .u8 a1) (.int .i64 a2) (.int .i64 a3) (.int .i64 a4) (.int .i64 a5) (.int .i64 a6) w (by omega)
  rw [decide_eq_true hn] at z
  have u1 : ¬ 1048576 < n := by omega
  have u2 : decide (a2 < 1) = false := by simp; omega
  have u4 : decide ((n : Int) < a2) = true := by simp; omega
  clear hn
  rcases ha with rfl | rfl
  all_goals
    go_enter Tryd.func4, Tryd.ntmps4
    go_wp2_with (go_at_call 13; refine z.mono ?_; rintro e w' ⟨rfl, rfl⟩)
    go_ret
    exact ⟨rfl, Below.refl _ _⟩
set_option maxRecDepth 100000 in
set_option maxHeartbeats 1000000 in
theorem out5 (p : Option Addr) (n c : Nat) (a1 : Int) (s : Nat) (a3 a4 a5 a6 : Int) (w : World) (hn : n ≤ 1048576) (ha : a1 = 0 ∨ a1 = 255) (hs1 : 1 ≤ s) (hs2 : s ≤ n) (h : a3 < 0) :
    Calls Tryd.prog 4 #[.slice p n c, .int .u8 a1, .int .i64 s, .int .i64 a3, .int .i64 a4, .int .i64 a5, .int .i64 a6] w fun e w' => e = .returned (.bool true) ∧ Below w.heap.size w w' := by
  have z := zz13 p n c (.int .u8 a1) (.int .i64 s) (.int .i64 a3) (.int .i64 a4) (.int .i64 a5) (.int .i64 a6) w (by omega)
  rw [decide_eq_true hn] at z
  have u1 : ¬ 1048576 < n := by omega
  have u2 : ¬ s < 1 := by omega
  have u2b : ¬ s = 0 := by omega
  have t2 : decide ((s : Int) < 1) = false := by simp; omega
  have u3 : ¬ n < s := by omega
  have t3 : decide ((s : Int) > (n : Int)) = false := by simp; omega
  have u5 : decide (a3 < 0) = true := by simp; omega
  clear hn hs1 hs2
  rcases ha with rfl | rfl
  all_goals
    go_enter Tryd.func4, Tryd.ntmps4
    go_wp2_with (go_at_call 13; refine z.mono ?_; rintro e w' ⟨rfl, rfl⟩)
    go_ret
    exact ⟨rfl, Below.refl _ _⟩

set_option maxRecDepth 100000 in
set_option maxHeartbeats 1000000 in
theorem out6 (p : Option Addr) (n c : Nat) (a1 : Int) (s : Nat) (a3 a4 a5 a6 : Int) (w : World) (hn : n ≤ 1048576) (ha : a1 = 0 ∨ a1 = 255) (hs1 : 1 ≤ s) (hs2 : s ≤ n) (h5 : ¬ a3 < 0) (h : a4 < 1) :
    Calls Tryd.prog 4 #[.slice p n c, .int .u8 a1, .int .i64 s, .int .i64 a3, .int .i64 a4, .int .i64 a5, .int .i64 a6] w fun e w' => e = .returned (.bool true) ∧ Below w.heap.size w w' := by
  have z := zz13 p n c (.int .u8 a1) (.int .i64 s) (.int .i64 a3) (.int .i64 a4) (.int .i64 a5) (.int .i64 a6) w (by omega)
  rw [decide_eq_true hn] at z
  have u1 : ¬ 1048576 < n := by omega
  have u2 : ¬ s < 1 := by omega
  have u2b : ¬ s = 0 := by omega
  have t2 : decide ((s : Int) < 1) = false := by simp; omega
  have u3 : ¬ n < s := by omega
  have t3 : decide ((s : Int) > (n : Int)) = false := by simp; omega
  have u5 : decide (a3 < 0) = false := by simp; omega
  have u6 : decide (a4 < 1) = true := by simp; omega
  clear hn hs1 hs2
  rcases ha with rfl | rfl
  all_goals
    go_enter Tryd.func4, Tryd.ntmps4
    go_wp2_with (go_at_call 13; refine z.mono ?_; rintro e w' ⟨rfl, rfl⟩)
    go_ret
    exact ⟨rfl, Below.refl _ _⟩

set_option maxRecDepth 100000 in
set_option maxHeartbeats 1000000 in
theorem out7 (p : Option Addr) (n c : Nat) (a1 : Int) (s : Nat) (a3 a4 a5 a6 : Int) (w : World) (hn : n ≤ 1048576) (ha : a1 = 0 ∨ a1 = 255) (hs1 : 1 ≤ s) (hs2 : s ≤ n) (h5 : ¬ a3 < 0) (h6 : ¬ a4 < 1) (h : (s : Int) < a4) :
    Calls Tryd.prog 4 #[.slice p n c, .int .u8 a1, .int .i64 s, .int .i64 a3, .int .i64 a4, .int .i64 a5, .int .i64 a6] w fun e w' => e = .returned (.bool true) ∧ Below w.heap.size w w' := by
  have z := zz13 p n c (.int .u8 a1) (.int .i64 s) (.int .i64 a3) (.int .i64 a4) (.int .i64 a5) (.int .i64 a6) w (by omega)
  rw [decide_eq_true hn] at z
  have u1 : ¬ 1048576 < n := by omega
  have u2 : ¬ s < 1 := by omega
  have u2b : ¬ s = 0 := by omega
  have t2 : decide ((s : Int) < 1) = false := by simp; omega
  have u3 : ¬ n < s := by omega
  have t3 : decide ((s : Int) > (n : Int)) = false := by simp; omega
  have u5 : decide (a3 < 0) = false := by simp; omega
  have u6 : decide (a4 < 1) = false := by simp; omega
  have u7 : decide ((s : Int) < a4) = true := by simp; omega
  clear hn hs1 hs2
  rcases ha with rfl | rfl
  all_goals
    go_enter Tryd.func4, Tryd.ntmps4
    go_wp2_with (go_at_call 13; refine z.mono ?_; rintro e w' ⟨rfl, rfl⟩)
    go_ret
    exact ⟨rfl, Below.refl _ _⟩

set_option maxRecDepth 100000 in
set_option maxHeartbeats 1000000 in
theorem out8 (p : Option Addr) (n c : Nat) (a1 : Int) (s L SL : Nat) (a3 a5 a6 : Int) (w : World) (hn : n ≤ 1048576) (ha : a1 = 0 ∨ a1 = 255) (hs1 : 1 ≤ s) (hs2 : s ≤ n) (h5 : ¬ a3 < 0) (h6 : 1 ≤ L) (h7 : L ≤ s) (hSL : SL = s - L) (h : (SL : Int) < a3) :
    Calls Tryd.prog 4 #[.slice p n c, .int .u8 a1, .int .i64 s, .int .i64 a3, .int .i64 L, .int .i64 a5, .int .i64 a6] w fun e w' => e = .returned (.bool true) ∧ Below w.heap.size w w' := by
  have z := zz13 p n c (.int .u8 a1) (.int .i64 s) (.int .i64 a3) (.int .i64 L) (.int .i64 a5) (.int .i64 a6) w (by omega)
  rw [decide_eq_true hn] at z
  have u1 : ¬ 1048576 < n := by omega
  have u2 : ¬ s < 1 := by omega
  have u2b : ¬ s = 0 := by omega
  have t2 : decide ((s : Int) < 1) = false := by simp; omega
  have u3 : ¬ n < s := by omega
  have t3 : decide ((s : Int) > (n : Int)) = false := by simp; omega
  have u5 : decide (a3 < 0) = false := by simp; omega
  have u6 : ¬ L < 1 := by omega
  have u6b : ¬ L = 0 := by omega
  have t6 : decide ((L : Int) < 1) = false := by simp; omega
  have u7 : ¬ s < L := by omega
  have e7 : (s : Int) - (L : Int) = (SL : Int) := by omega
  have e8 : IntKind.i64.wrap (SL : Int) = (SL : Int) := by rw [IntKind.wrap_i64]; omega
  have u8 : decide ((SL : Int) < a3) = true := by simp; omega
  clear hn hs1 hs2 hSL h7
  rcases ha with rfl | rfl
  all_goals
    go_enter Tryd.func4, Tryd.ntmps4
    go_wp2_with (go_at_call 13; refine z.mono ?_; rintro e w' ⟨rfl, rfl⟩)
    go_ret
    exact ⟨rfl, Below.refl _ _⟩

set_option maxRecDepth 100000 in
set_option maxHeartbeats 1000000 in
theorem out9 (p : Option Addr) (n c : Nat) (a1 : Int) (s f L SL : Nat) (a5 a6 : Int) (w : World) (hn : n ≤ 1048576) (ha : a1 = 0 ∨ a1 = 255) (hs1 : 1 ≤ s) (hs2 : s ≤ n) (h6 : 1 ≤ L) (h7 : L ≤ s) (hSL : SL = s - L) (h8 : f ≤ SL) (h : a5 < 0) :
    Calls Tryd.prog 4 #[.slice p n c, .int .u8 a1, .int .i64 s, .int .i64 f, .int .i64 L, .int .i64 a5, .int .i64 a6] w fun e w' => e = .returned (.bool true) ∧ Below w.heap.size w w' := by
  have z := zz13 p n c (.int .u8 a1) (.int .i64 s) (.int .i64 f) (.int .i64 L) (.int .i64 a5) (.int .i64 a6) w (by omega)
  rw [decide_eq_true hn] at z
  have u1 : ¬ 1048576 < n := by omega
  have u2 : ¬ s < 1 := by omega
  have u2b : ¬ s = 0 := by omega
  have t2 : decide ((s : Int) < 1) = false := by simp; omega
  have u3 : ¬ n < s := by omega
  have t3 : decide ((s : Int) > (n : Int)) = false := by simp; omega
  have u6 : ¬ L < 1 := by omega
  have u6b : ¬ L = 0 := by omega
  have t6 : decide ((L : Int) < 1) = false := by simp; omega
  have u7 : ¬ s < L := by omega
  have e7 : (s : Int) - (L : Int) = (SL : Int) := by omega
  have e8 : IntKind.i64.wrap (SL : Int) = (SL : Int) := by rw [IntKind.wrap_i64]; omega
  have t4 : decide ((f : Int) < 0) = false := by simp
  have u8 : ¬ SL < f := by omega
  have u9 : decide (a5 < 0) = true := by simp; omega
  clear hn hs1 hs2 hSL h7 h6 h8
  rcases ha with rfl | rfl
  all_goals
    go_enter Tryd.func4, Tryd.ntmps4
    go_wp2_with (go_at_call 13; refine z.mono ?_; rintro e w' ⟨rfl, rfl⟩)
    go_ret
    exact ⟨rfl, Below.refl _ _⟩

set_option maxRecDepth 100000 in
set_option maxHeartbeats 1000000 in
theorem out10 (p : Option Addr) (n c : Nat) (a1 : Int) (s f L SL Q v : Nat) (a6 : Int) (w : World) (hn : n ≤ 1048576) (ha : a1 = 0 ∨ a1 = 255) (hs1 : 1 ≤ s) (hs2 : s ≤ n) (h6 : 1 ≤ L) (h7 : L ≤ s) (hSL : SL = s - L) (h8 : f ≤ SL) (hQ : Q = n / s) (h : Q ≤ v) :
    Calls Tryd.prog 4 #[.slice p n c, .int .u8 a1, .int .i64 s, .int .i64 f, .int .i64 L, .int .i64 v, .int .i64 a6] w fun e w' => e = .returned (.bool true) ∧ Below w.heap.size w w' := by
  have z := zz13 p n c (.int .u8 a1) (.int .i64 s) (.int .i64 f) (.int .i64 L) (.int .i64 v) (.int .i64 a6) w (by omega)
  rw [decide_eq_true hn] at z
  have u1 : ¬ 1048576 < n := by omega
  have u2 : ¬ s < 1 := by omega
  have u2b : ¬ s = 0 := by omega
  have t2 : decide ((s : Int) < 1) = false := by simp; omega
  have u3 : ¬ n < s := by omega
  have t3 : decide ((s : Int) > (n : Int)) = false := by simp; omega
  have u6 : ¬ L < 1 := by omega
  have u6b : ¬ L = 0 := by omega
  have t6 : decide ((L : Int) < 1) = false := by simp; omega
  have u7 : ¬ s < L := by omega
  have e7 : (s : Int) - (L : Int) = (SL : Int) := by omega
  have e8 : IntKind.i64.wrap (SL : Int) = (SL : Int) := by rw [IntKind.wrap_i64]; omega
  have t4 : decide ((f : Int) < 0) = false := by simp
  have u8 : ¬ SL < f := by omega
  have t9 : decide ((v : Int) < 0) = false := by simp
  have hQn : Q ≤ n := by rw [hQ]; exact Nat.div_le_self _ _
  have hQ' : (n : Int) / (s : Int) = (Q : Int) := by rw [hQ]; simp
  have hQ2 : wrap64 ((n : Int) / (s : Int)) = (Q : Int) := by
    rw [hQ']
    clear hQ' hQ
    simp only [wrap64]; omega
  clear hQ' hQ hQn
  clear hn hs1 hs2 hSL h7 h6 h8
  rcases ha with rfl | rfl
  all_goals
    go_enter Tryd.func4, Tryd.ntmps4
    go_wp2_with (go_at_call 13; refine z.mono ?_; rintro e w' ⟨rfl, rfl⟩)
    go_ret
    exact ⟨rfl, Below.refl _ _⟩

set_option maxRecDepth 100000 in
set_option maxHeartbeats 1000000 in
theorem out11 (p : Option Addr) (n c : Nat) (a1 : Int) (s f L SL Q v : Nat) (a6 : Int) (w : World) (hn : n ≤ 1048576) (ha : a1 = 0 ∨ a1 = 255) (hs1 : 1 ≤ s) (hs2 : s ≤ n) (h6 : 1 ≤ L) (h7 : L ≤ s) (hSL : SL = s - L) (h8 : f ≤ SL) (hQ : Q = n / s) (h10 : v < Q) (h : a6 < 0) :
    Calls Tryd.prog 4 #[.slice p n c, .int .u8 a1, .int .i64 s, .int .i64 f, .int .i64 L, .int .i64 v, .int .i64 a6] w fun e w' => e = .returned (.bool true) ∧ Below w.heap.size w w' := by
  have z := zz13 p n c (.int .u8 a1) (.int .i64 s) (.int .i64 f) (.int .i64 L) (.int .i64 v) (.int .i64 a6) w (by omega)
  rw [decide_eq_true hn] at z
  have u1 : ¬ 1048576 < n := by omega
  have u2 : ¬ s < 1 := by omega
  have u2b : ¬ s = 0 := by omega
  have t2 : decide ((s : Int) < 1) = false := by simp; omega
  have u3 : ¬ n < s := by omega
  have t3 : decide ((s : Int) > (n : Int)) = false := by simp; omega
  have u6 : ¬ L < 1 := by omega
  have u6b : ¬ L = 0 := by omega
  have t6 : decide ((L : Int) < 1) = false := by simp; omega
  have u7 : ¬ s < L := by omega
  have e7 : (s : Int) - (L : Int) = (SL : Int) := by omega
  have e8 : IntKind.i64.wrap (SL : Int) = (SL : Int) := by rw [IntKind.wrap_i64]; omega
  have t4 : decide ((f : Int) < 0) = false := by simp
  have u8 : ¬ SL < f := by omega
  have t9 : decide ((v : Int) < 0) = false := by simp
  have u10 : ¬ Q ≤ v := Nat.not_le.2 h10
  have u11 : decide (a6 < 0) = true := by simp; omega
  have hQn : Q ≤ n := by rw [hQ]; exact Nat.div_le_self _ _
  have hQ' : (n : Int) / (s : Int) = (Q : Int) := by rw [hQ]; simp
  have hQ2 : wrap64 ((n : Int) / (s : Int)) = (Q : Int) := by
    rw [hQ']
    clear hQ' hQ
    simp only [wrap64]; omega
  clear hQ' hQ hQn
  clear hn hs1 hs2 hSL h7 h6 h8 h10
  rcases ha with rfl | rfl
  all_goals
    go_enter Tryd.func4, Tryd.ntmps4
    go_wp2_with (go_at_call 13; refine z.mono ?_; rintro e w' ⟨rfl, rfl⟩)
    go_ret
    exact ⟨rfl, Below.refl _ _⟩

set_option maxRecDepth 100000 in
set_option maxHeartbeats 1000000 in
theorem out12 (p : Option Addr) (n c : Nat) (a1 : Int) (s f L SL Q v d : Nat) (w : World) (hn : n ≤ 1048576) (ha : a1 = 0 ∨ a1 = 255) (hs1 : 1 ≤ s) (hs2 : s ≤ n) (h6 : 1 ≤ L) (h7 : L ≤ s) (hSL : SL = s - L) (h8 : f ≤ SL) (hQ : Q = n / s) (h10 : v < Q) (h : L < d) :
    Calls Tryd.prog 4 #[.slice p n c, .int .u8 a1, .int .i64 s, .int .i64 f, .int .i64 L, .int .i64 v, .int .i64 d] w fun e w' => e = .returned (.bool true) ∧ Below w.heap.size w w' := by
  have z := zz13 p n c (.int .u8 a1) (.int .i64 s) (.int .i64 f) (.int .i64 L) (.int .i64 v) (.int .i64 d) w (by omega)
  rw [decide_eq_true hn] at z
  have u1 : ¬ 1048576 < n := by omega
  have u2 : ¬ s < 1 := by omega
  have u2b : ¬ s = 0 := by omega
  have t2 : decide ((s : Int) < 1) = false := by simp; omega
  have u3 : ¬ n < s := by omega
  have t3 : decide ((s : Int) > (n : Int)) = false := by simp; omega
  have u6 : ¬ L < 1 := by omega
  have u6b : ¬ L = 0 := by omega
  have t6 : decide ((L : Int) < 1) = false := by simp; omega
  have u7 : ¬ s < L := by omega
  have e7 : (s : Int) - (L : Int) = (SL : Int) := by omega
  have e8 : IntKind.i64.wrap (SL : Int) = (SL : Int) := by rw [IntKind.wrap_i64]; omega
  have t4 : decide ((f : Int) < 0) = false := by simp
  have u8 : ¬ SL < f := by omega
  have t9 : decide ((v : Int) < 0) = false := by simp
  have u10 : ¬ Q ≤ v := Nat.not_le.2 h10
  have t11 : decide ((d : Int) < 0) = false := by simp
  have hQn : Q ≤ n := by rw [hQ]; exact Nat.div_le_self _ _
  have hQ' : (n : Int) / (s : Int) = (Q : Int) := by rw [hQ]; simp
  have hQ2 : wrap64 ((n : Int) / (s : Int)) = (Q : Int) := by
    rw [hQ']
    clear hQ' hQ
    simp only [wrap64]; omega
  clear hQ' hQ hQn
  clear hn hs1 hs2 hSL h7 h6 h8 h10
  rcases ha with rfl | rfl
  all_goals
    go_enter Tryd.func4, Tryd.ntmps4
    go_wp2_with (go_at_call 13; refine z.mono ?_; rintro e w' ⟨rfl, rfl⟩)
    go_ret
    exact ⟨rfl, Below.refl _ _⟩
end Go.Proofs.Qxb6613005aDoor.Kw
