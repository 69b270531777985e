/-
  THE WALK OF 'FnUnionMergesTwoSetsUnderSmallerRoot'.
-/
import Derived.Test.Qxb6612831aClone
namespace Go.Proofs.Qxb6612831a.Uf
open Go.RowKit

/-- Is the length at most 2^20? -/
def okLen (n : Nat) : Bool := decide (n ≤ 1048576)
theorem ret_bool {a b : Bool} (h : a = b) : Ending.returned (.bool a) = .returned (.bool b) := by rw [h]

set_option maxHeartbeats 400000 in
theorem zz6 (p : Option Addr) (n c : Nat) (v x : Int) (w : World) (hn : n ≤ maxLen) :
    Calls Try.prog 6 #[.slice p n c, .int .i32 v, .int .i32 x] w fun e w' => e = .returned (.bool (okLen n)) ∧ w = w' := by
  unfold maxLen at hn
  by_cases h1 : 1048576 < n
  all_goals
    go_enter Try.func6, Try.ntmps6
    go_wp2
    go_ret
    exact ⟨ret_bool (by simp [okLen]; omega), rfl⟩

set_option maxHeartbeats 1000000 in
theorem law3_early (p : Option Addr) (n c : Nat) (v x : Int) (w : World) (hn : n ≤ maxLen) (hv : -2147483648 ≤ v ∧ v ≤ 2147483647) (hx : -2147483648 ≤ x ∧ x ≤ 2147483647)
    (h : 262144 < n ∨ v < 0 ∨ (n : Int) ≤ v ∨ x < 0 ∨ (n : Int) ≤ x) :
    Calls Try.prog 3 #[.slice p n c, .int .i32 v, .int .i32 x] w fun e w' => e = .returned (.bool true) ∧ Below w.heap.size w w' := by
  have z := zz6 p n c v x w hn
  unfold maxLen at hn
  cases hok : okLen n
  · rw [hok] at z
    go_enter Try.func3, Try.ntmps3
    go_wp2_with (go_at_call 6; refine z.mono ?_; rintro e w' ⟨rfl, rfl⟩)
    go_ret
    exact ⟨rfl, Below.refl _ _⟩
  · rw [hok] at z
    by_cases h1 : 262144 < n
    · go_enter Try.func3, Try.ntmps3
      go_wp2_with (go_at_call 6; refine z.mono ?_; rintro e w' ⟨rfl, rfl⟩)
      go_ret
      exact ⟨rfl, Below.refl _ _⟩
    by_cases h2 : v < 0
    · go_enter Try.func3, Try.ntmps3
      go_wp2_with (go_at_call 6; refine z.mono ?_; rintro e w' ⟨rfl, rfl⟩)
      go_ret
      exact ⟨rfl, Below.refl _ _⟩
    by_cases h3 : (n : Int) ≤ v
    · go_enter Try.func3, Try.ntmps3
      go_wp2_with (go_at_call 6; refine z.mono ?_; rintro e w' ⟨rfl, rfl⟩)
      go_ret
      exact ⟨rfl, Below.refl _ _⟩
    by_cases h4 : x < 0
    · go_enter Try.func3, Try.ntmps3
      go_wp2_with (go_at_call 6; refine z.mono ?_; rintro e w' ⟨rfl, rfl⟩)
      go_ret
      exact ⟨rfl, Below.refl _ _⟩
    have h5 : (n : Int) ≤ x := by omega
    go_enter Try.func3, Try.ntmps3
    go_wp2_with (go_at_call 6; refine z.mono ?_; rintro e w' ⟨rfl, rfl⟩)
    go_ret
    exact ⟨rfl, Below.refl _ _⟩

theorem forest_of {zs : List Int} {n : Nat} (hl : zs.length = n) (h : ∀ j, j < n → 0 ≤ zs.getD j 0 ∧ zs.getD j 0 ≤ j) : Forest (zs.map Int.toNat) n := by
  refine ⟨by simp [hl], fun x hx => ?_⟩
  have := h x hx
  have hx' : x < zs.length := by omega
  simp [List.getD, hx'] at this ⊢
  omega
theorem lies_of {w : World} {b o n : Nat} {zs : List Int} (hl : zs.length = n) (h : ∀ j, j < n → 0 ≤ zs.getD j 0 ∧ zs.getD j 0 ≤ j) (hb : b < w.heap.size) (hc : ∀ i, i < n → w.cell? ⟨b, o + i, none⟩ = some (.int .i32 (zs.getD i 0))) : Lies w b o n (zs.map Int.toNat) := by
  refine ⟨by simp [hl], hb, fun i hi => ?_⟩
  rw [hc i hi]
  have := h i hi
  have hx' : i < zs.length := by omega
  simp [List.getD, hx'] at this ⊢
  omega

set_option maxRecDepth 100000 in
set_option maxHeartbeats 4000000 in
theorem law3_main (b o n c v x : Nat) (zs : List Int) (w : World) (hn : n ≤ 262144) (hv : v < n) (hx : x < n) (hl : Hid (zs.length = n)) (hb : b < w.heap.size) (hc : Hid (∀ i, i < n → w.cell? ⟨b, o + i, none⟩ = some (.int .i32 (zs.getD i 0)))) (hzb : Hid (∀ i, i < n → -2147483648 ≤ zs.getD i 0 ∧ zs.getD i 0 ≤ 2147483647)) :
    Calls Try.prog 3 #[.slice (some ⟨b, o, none⟩) n c, .int .i32 v, .int .i32 x] w fun e w' => e = .returned (.bool true) ∧ Below w.heap.size w w' := by
  have z := zz6 (some ⟨b, o, none⟩) n c v x w (by unfold maxLen; omega)
  rw [show okLen n = true from by simp [okLen]; omega] at z
  have t0 : decide ((v : Int) < 0) = false := by simp
  have t1 : decide ((n : Int) ≤ (v : Int)) = false := by simp; omega
  have t2 : decide ((x : Int) < 0) = false := by simp
  have t3 : decide ((n : Int) ≤ (x : Int)) = false := by simp; omega
  go_enter Try.func3, Try.ntmps3
  go_wp2_with (go_at_call 6; refine z.mono ?_; rintro e w' ⟨rfl, rfl⟩)
  clear z t0 t1 t2 t3
  go_loop [8] (fun y => ∃ k : Nat, k ≤ n ∧ y = .int .i64 (k : Int) ∧ Hid (∀ j, j < k → 0 ≤ zs.getD j 0 ∧ zs.getD j 0 ≤ j)) (fun y => n - (intOf y).toNat)
  case atStart => exact ⟨0, Nat.zero_le _, rfl, fun j hj => by omega⟩
  case round =>
    obtain ⟨k, hk, rfl, hall⟩ := hrel
    by_cases hlt : k < n
    · have c0 := unhide hc k hlt
      have hzk := unhide hzb k hlt
      obtain ⟨u, hu⟩ : ∃ u, u = zs.getD k 0 := ⟨_, rfl⟩
      rw [← hu] at c0 hzk
      have HU := hide hu
      clear hu
      by_cases h1 : u < 0
      · go_wp2
        go_ret
        exact ⟨rfl, Below.refl _ _⟩
      · have d1 : decide (u < 0) = false := by simp; omega
        by_cases h2 : (k : Int) < u
        · go_wp2
          go_ret
          exact ⟨rfl, Below.refl _ _⟩
        · have hall2 : Hid (∀ j, j < k + 1 → 0 ≤ zs.getD j 0 ∧ zs.getD j 0 ≤ j) := fun j hj => by
            rcases Nat.lt_succ_iff_lt_or_eq.1 hj with h | h
            · exact unhide hall j h
            · subst h; rw [← unhide HU]; omega
          go_wp2
          go_round
          case rel => exact ⟨k + 1, by omega, by go_num, hall2⟩
          case measure => simp [intOf]; omega
    · obtain rfl : k = n := by omega
      have f := forest_of (unhide hl) (unhide hall)
      have hL := lies_of (unhide hl) (unhide hall) hb (unhide hc)
      obtain ⟨U, hU⟩ : ∃ U, U = zs.map Int.toNat := ⟨_, rfl⟩
      rw [← hU] at f hL
      clear hU hc hzb hall hl
      have q1 := clone7 b o k c U w hL hn
      go_wp2_with fail
      refine q1.mono ?_
      rintro e w1 ⟨rfl, i1, b1⟩
      have l1 := i1.lt
      have q2 := roots8 w.heap.size 0 k k U w1 (i1.lies f.len) f hn
      clear q1
      go_wp2_with fail
      refine q2.mono ?_
      rintro e w2 ⟨rfl, R, i2, hR, b2⟩
      have l2 := i2.lt
      clear q2
      have cv := i2.cell v (by rw [hR.len]; exact hv)
      have cx := i2.cell x (by rw [hR.len]; exact hx)
      have i12 := (i1.lies f.len).below b2 l1
      have q3 := clone7 w.heap.size 0 k k U w2 i12 hn
      have ha := hR.le f v hv
      have hxx := hR.le f x hx
      obtain ⟨rv, hrv⟩ : ∃ rv, rv = R.getD v 0 := ⟨_, rfl⟩
      obtain ⟨rx, hrx⟩ : ∃ rx, rx = R.getD x 0 := ⟨_, rfl⟩
      rw [← hrv] at cv ha
      rw [← hrx] at cx hxx
      have HRV := hide hrv
      have HRX := hide hrx
      have hun := fun w3 (i3 : IRow w3 w2.heap.size U) => union9 w2.heap.size k U R v x w3 i3 f hR hv hx
      rw [← hrv, ← hrx] at hun
      have HUN := hide hun
      clear hrv hrx hun
      have bel2 := b1.trans (b2.mono (Nat.le_of_lt l1))
      rcases Nat.lt_or_ge rx rv with hcmp | hcmp
      all_goals
        go_wp2_with fail
        refine q3.mono ?_
        rintro e w3 ⟨rfl, i3, b3⟩
        have l3 := i3.lt
        clear q3
        go_wp2_with fail
        refine ((unhide HUN) w3 i3).mono ?_
        rintro e w4 ⟨rfl, U4, i4, f4, hR4, bb4⟩
        have bel4 := bel2.trans ((b3.trans (bb4.below (Nat.le_refl _))).mono (Nat.le_of_lt (Nat.lt_trans l1 l2)))
        have i24 : IRow w4 w1.heap.size R := by
          have : IRow w3 w1.heap.size R := by show _ = _; rw [b3.block w1.heap.size l2]; exact i2.out
          exact bb4.row this (Nat.ne_of_lt l2)
        have hMu := hide (fun R' (h' : IsRoots U4 R' k) y (hy : y < k) => h'.unique f4 hR4 y hy)
        have q5 := roots8 w2.heap.size 0 k k U4 w4 (i4.lies f4.len) f4 hn
        clear i1 i2 i3 b1 b2 b3 bb4 i12 cv cx hL HUN bel2
        go_wp2
        go_loop [14] (fun y => ∃ j : Nat, j ≤ k ∧ y = .int .i64 (j : Int)) (fun y => k - (intOf y).toNat)
        case atStart => exact ⟨0, Nat.zero_le _, rfl⟩
        case round =>
          obtain ⟨j, hj, rfl⟩ := hrel
          by_cases hlt : j < k
          · have c0 := i4.cell j (by rw [f4.len]; exact hlt)
            have hle := f4.le j hlt
            obtain ⟨u, hu⟩ : ∃ u, u = U4.getD j 0 := ⟨_, rfl⟩
            rw [← hu] at c0 hle
            have d1 : decide ((u : Int) < 0) = false := by simp
            have d2 : decide ((j : Int) < (u : Int)) = false := by simp; omega
            clear hu
            go_wp2
            go_round
            case rel => exact ⟨j + 1, by omega, by go_num⟩
            case measure => simp [intOf]; omega
          · obtain rfl : j = k := by omega
            go_wp2_with fail
            refine q5.mono ?_
            rintro e w5 ⟨rfl, R5, i5, hR5, b5⟩
            have l4 := i4.lt
            have i25 : IRow w5 w1.heap.size R := by show _ = _; rw [b5.block w1.heap.size (Nat.lt_trans l2 l4)]; exact i24.out
            have HEQ := hide (unhide hMu R5 hR5)
            have HL5 := hide hR5.len
            have bel5 := bel4.trans (b5.mono (Nat.le_trans (Nat.le_of_lt (Nat.lt_trans l1 l2)) (Nat.le_of_lt l4)))
            have hRl := hR.len
            clear q5 i24 hMu f hR f4 hR4 hR5 i4 b5 bel4
            go_wp2
            go_loop [16] (fun y => ∃ i : Nat, i ≤ j ∧ y = .int .i64 (i : Int)) (fun y => j - (intOf y).toNat)
            case atStart => exact ⟨0, Nat.zero_le _, rfl⟩
            case round =>
              obtain ⟨i, hi, rfl⟩ := hrel
              by_cases hlt : i < j
              · have c2 := i25.cell i (by rw [hRl]; exact hlt)
                have c5 := i5.cell i (by rw [unhide HL5]; exact hlt)
                rw [unhide HEQ i hlt, getD_merged R rv rx i (by rw [hRl]; exact hlt)] at c5
                obtain ⟨t, ht⟩ : ∃ t, t = R.getD i 0 := ⟨_, rfl⟩
                rw [← ht] at c2 c5
                clear ht
                by_cases e1 : t = rv
                · have d1 : ((t : Int) == (rv : Int)) = true := by simp [e1]
                  rw [show merge rv rx t = min rv rx from by unfold merge; rw [if_pos (.inl e1)]] at c5
                  first | rw [Nat.min_eq_right (Nat.le_of_lt hcmp)] at c5 | rw [Nat.min_eq_left hcmp] at c5
                  clear e1
                  go_wp2
                  go_round
                  case rel => exact ⟨i + 1, by omega, by go_num⟩
                  case measure => simp [intOf]; omega
                · have d1 : ((t : Int) == (rv : Int)) = false := by simp; omega
                  by_cases e2 : t = rx
                  · have d2 : ((t : Int) == (rx : Int)) = true := by simp [e2]
                    rw [show merge rv rx t = min rv rx from by unfold merge; rw [if_pos (.inr e2)]] at c5
                    first | rw [Nat.min_eq_right (Nat.le_of_lt hcmp)] at c5 | rw [Nat.min_eq_left hcmp] at c5
                    clear e1 e2
                    go_wp2
                    go_round
                    case rel => exact ⟨i + 1, by omega, by go_num⟩
                    case measure => simp [intOf]; omega
                  · have d2 : ((t : Int) == (rx : Int)) = false := by simp; omega
                    rw [show merge rv rx t = t from by unfold merge; rw [if_neg (by rintro (h | h) <;> omega)]] at c5
                    clear e1 e2
                    go_wp2
                    go_round
                    case rel => exact ⟨i + 1, by omega, by go_num⟩
                    case measure => simp [intOf]; omega
              · go_wp2
                go_ret
                exact ⟨rfl, bel5⟩

/-- WHAT THE WALK IS TOLD OF A SLICE OF INTEGERS THAT CAME IN (the shell's own words). -/
def IsRow (k : IntKind) (w : World) (a : Option Addr) (len cap : Nat) (zs : List Int) : Prop :=
  (a = none ∧ len = 0 ∧ cap = 0 ∧ zs = []) ∨
  ∃ x, a = some x ∧ len ≤ cap ∧ cap ≤ maxLen ∧ zs.length = cap ∧ (∀ i, i < zs.length → w.cell? (x.add i) = some (.int k (zs.getD i 0))) ∧ ∀ n ∈ zs, (Lit.int k n).wf = true

/-- THE WALK, WHOLE. -/
theorem law3_all (a0 : Option Addr) (len0 cap0 : Nat) (z0 : List Int) (v x : Int) (w : World) (w0 : IsRow .i32 w a0 len0 cap0 z0) (hv : (Lit.int .i32 v).wf = true) (hx : (Lit.int .i32 x).wf = true) :
    Calls Try.prog 3 #[.slice a0 len0 cap0, .int .i32 v, .int .i32 x] w fun e w' => e = .returned (.bool true) ∧ Below w.heap.size w w' := by
  have bv := bounds_i32 hv
  have bx := bounds_i32 hx
  rcases w0 with ⟨rfl, rfl, rfl, rfl⟩ | ⟨y, rfl, hl, hm, hz, hcell, hwz⟩
  · exact law3_early none 0 0 v x w (Nat.zero_le _) bv bx (by omega)
  · by_cases h : 262144 < len0 ∨ v < 0 ∨ (len0 : Int) ≤ v ∨ x < 0 ∨ (len0 : Int) ≤ x
    · exact law3_early (some y) len0 cap0 v x w (by omega) bv bx h
    · obtain ⟨b, o, s⟩ := y
      obtain ⟨v', rfl⟩ := Int.eq_ofNat_of_zero_le (show 0 ≤ v by omega)
      obtain ⟨x', rfl⟩ := Int.eq_ofNat_of_zero_le (show 0 ≤ x by omega)
      have hc0 := hcell 0 (by omega)
      obtain rfl : s = none := by simpa [Addr.add] using World.cell?_spot hc0
      have hplain : ∀ i, (⟨b, o, none⟩ : Addr).add i = ⟨b, o + i, none⟩ := fun i => by unfold Addr.add; split <;> simp_all
      refine law3_main b o len0 cap0 v' x' (z0.take len0) w (by omega) (by omega) (by omega) (show _ = _ by simp; omega) ?_ ?_ ?_
      · rw [hplain] at hc0
        exact block_lt_of_cell hc0
      · intro i hi
        rw [← hplain, hcell i (by omega)]
        simp [List.getD, hi]
      · intro i hi
        have hb := bounds_i32 (hwz z0[i] (List.getElem_mem (by omega)))
        have hi' : i < z0.length := by omega
        simp [List.getD, hi', hi]
        omega
#print axioms law3_all
end Go.Proofs.Qxb6612831a.Uf
