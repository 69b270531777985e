/-
  THE CALLEES OF THE TWO LAWS OVER equalHex: what each computes, as a plain function of the bytes.
-/
import Derived.Test.Qxb6612733aRows
import Derived.WalkKit
import Derived.ProofKit
import Derived.Outline
import Derived.Laws.BytesArg
namespace Go.Proofs.Qxb6612733a.Hex
open Go.RowKit

/-- The numbers 'xs' are the bytes of a slice of n elements at 'p' (no byte: whatever the address). -/
def BIn (w : World) (p : Option Addr) (n : Nat) (xs : List Int) : Prop :=
  0 < n → ∃ b o, p = some ⟨b, o, none⟩ ∧ ∀ i, i < n → w.cell? ⟨b, o + i, none⟩ = some (.int .u8 (xs.getD i 0))
/-- Each number is a byte's. -/
def Byt (xs : List Int) : Prop := ∀ x ∈ xs, 0 ≤ x ∧ x ≤ 255
/-- Are the two the same bytes? -/
def eqB (xs ys : List Int) : Bool := decide (xs = ys)

theorem conv_zero {P : Program} (w : World) (src e dst : TypeId) (hs : P.underlying src = some (.slice e)) (he : P.underlying e = some (.int .u8)) (p : Option Addr) (c : Nat) (hd : P.underlying dst = some .string) :
    (convert src dst (.slice p 0 c)).run P w = .ok (.string ByteArray.empty) w := by
  rw [run_convert_bytes_string w src dst e _ 0 c hs he hd]
  cases p <;> simp [Conv.bytesToString, loadCells]
  all_goals rfl

theorem conv {w : World} {p : Option Addr} {n : Nat} {xs : List Int} (h : BIn w p n xs) (hx : xs.length = n) (c : Nat) :
    (convert 30 9 (.slice p n c)).run Try.prog w = .ok (.string (strOfNums xs)) w := by
  rcases Nat.eq_zero_or_pos n with hn | hn
  · subst hn
    obtain rfl : xs = [] := List.eq_nil_of_length_eq_zero hx
    exact conv_zero w 30 5 9 Try.underlying30 Try.underlying5 p c Try.underlying9
  · obtain ⟨b, o, rfl, hc⟩ := h hn
    exact run_convert_bytes_arg (P := Try.prog) w 30 5 Try.underlying30 Try.underlying5 b o n c xs hx hc 9 Try.underlying9

theorem byt_inj {xs ys : List Int} (hx : Byt xs) (hy : Byt ys) (h : xs.map (fun n => UInt8.ofNat n.toNat) = ys.map (fun n => UInt8.ofNat n.toNat)) : xs = ys := by
  induction xs generalizing ys with
  | nil => cases ys with
    | nil => rfl
    | cons y ys => simp at h
  | cons x xs ih => cases ys with
    | nil => simp at h
    | cons y ys =>
      simp only [List.map_cons, List.cons.injEq] at h
      have a := hx x (by simp)
      have b := hy y (by simp)
      have e := congrArg UInt8.toNat h.1
      simp at e
      rw [show x = y from by omega, ih (fun z hz => hx z (by simp [hz])) (fun z hz => hy z (by simp [hz])) h.2]

theorem eq_str {xs ys : List Int} (hx : Byt xs) (hy : Byt ys) : ((strOfNums xs).toList == (strOfNums ys).toList) = eqB xs ys := by
  rw [ByteArray.toList_eq, ByteArray.toList_eq, strOfNums_data, strOfNums_data, eqB, Bool.eq_iff_iff]
  simp only [beq_iff_eq, decide_eq_true_eq]
  exact ⟨byt_inj hx hy, fun h => by rw [h]⟩

theorem World.lt_of_cell {w : World} {a : Addr} {v : Value} (h : w.cell? a = some v) : a.block < w.heap.size := by
  rcases Nat.lt_or_ge a.block w.heap.size with h1 | h1
  · exact h1
  · simp [World.cell?, Array.getElem?_eq_none h1] at h

theorem ret_bool {a b : Bool} (h : a = b) : Ending.returned (.bool a) = .returned (.bool b) := by rw [h]

set_option maxHeartbeats 400000 in
/-- 'ZZequalHex', and 'equalHex' and bytes.Equal below it. -/
theorem hex16 (p q : Option Addr) (n c m d : Nat) (xs ys : List Int) (w : World) (hx : xs.length = n) (hy : ys.length = m) (bx : Byt xs) (hb : Byt ys) (h1 : BIn w p n xs) (h2 : BIn w q m ys) :
    Calls Try.prog 16 #[.slice p n c, .slice q m d] w fun e w' => e = .returned (.bool (eqB xs ys)) ∧ w = w' := by
  have c1 := conv h1 hx c
  have c2 := conv h2 hy d
  clear h1 h2
  go_enter Try.func16, Try.ntmps16
  go_wp2
  go_ret
  exact ⟨ret_bool (eq_str bx hb), rfl⟩

/-- Is the sum of the two lengths at most 2^20? -/
def okLen (n m : Nat) : Bool := decide (n + m ≤ 1048576)

set_option maxHeartbeats 400000 in
theorem zz15 (p q : Option Addr) (n c m d : Nat) (i : Int) (w : World) (hn : n ≤ maxLen) (hm : m ≤ maxLen) :
    Calls Try.prog 15 #[.slice p n c, .slice q m d, .int .i64 i] w fun e w' => e = .returned (.bool (okLen n m)) ∧ w = w' := by
  unfold maxLen at hn hm
  by_cases h1 : 1048576 < n
  · go_enter Try.func15, Try.ntmps15
    go_wp2
    go_ret
    exact ⟨ret_bool (by simp [okLen]; omega), rfl⟩
  · by_cases h2 : 1048576 < m
    · go_enter Try.func15, Try.ntmps15
      go_wp2
      go_ret
      exact ⟨ret_bool (by simp [okLen]; omega), rfl⟩
    · by_cases h3 : 1048576 < n + m
      · go_enter Try.func15, Try.ntmps15
        go_wp2
        go_ret
        exact ⟨ret_bool (by simp [okLen]; omega), rfl⟩
      · go_enter Try.func15, Try.ntmps15
        go_wp2
        go_ret
        exact ⟨ret_bool (by simp [okLen]; omega), rfl⟩

theorem ext_of {xs ys : List Int} (hl : xs.length = ys.length) (h : ∀ j, j < xs.length → xs.getD j 0 = ys.getD j 0) : xs = ys := by
  apply List.ext_getElem hl
  intro j h1 h2
  have := h j h1
  simpa [List.getD, h1, h2] using this

set_option maxHeartbeats 1000000 in
/-- 'b1EqualBytes'. It reads: the world draws at most. -/
theorem eq14 (p q : Option Addr) (n c m d : Nat) (xs ys : List Int) (w : World) (hx : xs.length = n) (hy : ys.length = m) (hn : n ≤ maxLen) (hm : m ≤ maxLen) (h1 : BIn w p n xs) (h2 : BIn w q m ys) :
    Calls Try.prog 14 #[.slice p n c, .slice q m d] w fun e w' => e = .returned (.bool (eqB xs ys)) ∧ Below w.heap.size w w' := by
  unfold maxLen at hn hm
  by_cases hne : n = m
  · subst hne
    rcases Nat.eq_zero_or_pos n with h0 | h0
    · subst h0
      obtain rfl : xs = [] := List.eq_nil_of_length_eq_zero hx
      obtain rfl : ys = [] := List.eq_nil_of_length_eq_zero hy
      go_enter Try.func14, Try.ntmps14
      go_wp2
      refine wp_loop_rounds 1 ?_
      rw [rounds_succ]
      go_wp2
      go_ret
      exact ⟨rfl, Below.refl _ _⟩
    · obtain ⟨b, o, rfl, hc1⟩ := h1 h0
      obtain ⟨b2, o2, rfl, hc2⟩ := h2 h0
      clear h1 h2
      have HX : Hid (xs.length = n) := hx
      have HY : Hid (ys.length = n) := hy
      clear hx hy
      have HC1 : Hid (∀ i, i < n → w.cell? ⟨b, o + i, none⟩ = some (.int .u8 (xs.getD i 0))) := hc1
      have HC2 : Hid (∀ i, i < n → w.cell? ⟨b2, o2 + i, none⟩ = some (.int .u8 (ys.getD i 0))) := hc2
      clear hc1 hc2
      go_enter Try.func14, Try.ntmps14
      go_wp2
      go_loopw [5] (fun i wr => ∃ k : Nat, k ≤ n ∧ i = .int .i64 k ∧ Hid (∀ j, j < k → xs.getD j 0 = ys.getD j 0) ∧ Below w.heap.size w wr) (fun i _ => n - (intOf i).toNat)
      case atStart => exact ⟨0, Nat.zero_le _, rfl, fun j hj => by omega, Below.refl _ _⟩
      case round =>
        obtain ⟨k, hk, rfl, hall, hbel⟩ := hrel
        by_cases hlt : k < n
        · have g1 := HC1.out k hlt
          have g2 := HC2.out k hlt
          rw [← hbel.cell (p := ⟨b, o + k, none⟩) (World.lt_of_cell g1)] at g1
          rw [← hbel.cell (p := ⟨b2, o2 + k, none⟩) (World.lt_of_cell g2)] at g2
          obtain ⟨u, hu⟩ : ∃ u, u = xs.getD k 0 := ⟨_, rfl⟩
          obtain ⟨v, hv⟩ : ∃ v, v = ys.getD k 0 := ⟨_, rfl⟩
          rw [← hu] at g1
          rw [← hv] at g2
          have HU : Hid (u = xs.getD k 0) := hu
          have HV : Hid (v = ys.getD k 0) := hv
          clear hu hv
          by_cases huv : u = v
          · subst huv
            go_wp2
            go_region
            go_wp2
            all_goals
              go_roundw
              case rel => exact ⟨k + 1, by omega, by go_num, fun j hj => by
                rcases Nat.lt_succ_iff_lt_or_eq.1 hj with h | h
                · exact hall.out j h
                · rw [h, ← HU.out, ← HV.out], hbel.drew⟩
              case measure => simp [intOf]; omega
          · have hne : (u == v) = false := by simp [huv]
            have hfin : Hid (eqB xs ys = false) := by
              show _ = _
              simp only [eqB, decide_eq_false_iff_not]
              intro h
              exact huv (by rw [HU.out, HV.out, h])
            go_wp2
            go_region
            go_wp2
            all_goals
              go_ret
              exact ⟨ret_bool hfin.out.symm, hbel.drew⟩
        · have hfin : Hid (eqB xs ys = true) := by
            show _ = _
            simp only [eqB, decide_eq_true_eq]
            exact ext_of (by rw [HX.out, HY.out]) (fun j hj => hall.out j (by have := HX.out; omega))
          go_wp2
          go_ret
          exact ⟨ret_bool hfin.out.symm, hbel⟩
  · have hz : ((n : Int) == (m : Int)) = false := by simp; omega
    have hfin : Hid (eqB xs ys = false) := by
      show _ = _
      simp only [eqB, decide_eq_false_iff_not]
      intro h
      exact hne (by rw [← hx, ← hy, h])
    clear hx hy
    go_enter Try.func14, Try.ntmps14
    go_wp2
    go_ret
    exact ⟨ret_bool hfin.out.symm, Below.refl _ _⟩
end Go.Proofs.Qxb6612733a.Hex
