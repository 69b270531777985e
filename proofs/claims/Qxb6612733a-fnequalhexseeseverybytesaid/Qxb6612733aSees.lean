/-
  THE WALK OF 'FnEqualHexSeesEveryByte'.
-/
import Derived.Test.Qxb6612733aCutNil
namespace Go.Proofs.Qxb6612733a.Hex
open Go.RowKit

theorem Row.free {w : World} {g : Nat} {xs : List Int} (h : Row w g xs) (i : Nat) : w.frozen? ⟨g, i, none⟩ = false := by
  simp [World.frozen?, h.out]

theorem Row.set {w : World} {g : Nat} {xs : List Int} (h : Row w g xs) (k : Nat) (x : Int) : Row (w.setCell ⟨g, k, none⟩ (.int .u8 x)) g (xs.set k x) := by
  show _ = _
  simp [World.setCell, Array.getElem?_modify, h.out, List.map_set]

theorem Row.other {w : World} {g : Nat} {xs : List Int} (h : Row w g xs) (a : Addr) (v : Value) (hg : g ≠ a.block) : Row (w.setCell a v) g xs := by
  show _ = _
  rw [Below.heap_setCell _ _ _ _ hg]; exact h.out

set_option maxHeartbeats 400000 in
theorem zz17 (p : Option Addr) (n c : Nat) (i x : Int) (w : World) (hn : n ≤ maxLen) :
    Calls Try.prog 17 #[.slice p n c, .int .i64 i, .int .u8 x] w fun e w' => e = .returned (.bool (okLen n 0)) ∧ w = w' := by
  unfold maxLen at hn
  by_cases h1 : 1048576 < n
  all_goals
    go_enter Try.func17, Try.ntmps17
    go_wp2
    go_ret
    exact ⟨ret_bool (by simp [okLen]; omega), rfl⟩

set_option maxHeartbeats 400000 in
theorem clone_nil (w : World) : Calls Try.prog 18 #[.slice none 0 0] w fun e w' => e = .returned (.slice none 0 0) ∧ w = w' := by
  have ne : ∀ (w : World) (a : Option Addr) (n c n' c' : Nat), (binOp .eql 30 (.slice a n c) (.slice none n' c')).run Try.prog w = .ok (.bool a.isNone) w := fun w a n c n' c' => Lib.run_eql_slice_nil w _ _ a n c n' c' Try.underlying30
  go_enter Try.func18, Try.ntmps18
  go_wp2
  go_ret
  exact ⟨rfl, rfl⟩

set_option maxHeartbeats 400000 in
theorem clone_some (x : Addr) (n c : Nat) (xs : List Int) (w : World) (hn : n ≤ 524288) (hx : Hid (xs.length = n)) (h1 : BIn w (some x) n xs) :
    Calls Try.prog 18 #[.slice (some x) n c] w fun e w' => e = .returned (.slice (some ⟨w.heap.size, 0, none⟩) n n) ∧ Row w' w.heap.size xs ∧ Below w.heap.size w w' := by
  have ne : ∀ (w : World) (a : Option Addr) (n c n' c' : Nat), (binOp .eql 30 (.slice a n c) (.slice none n' c')).run Try.prog w = .ok (.bool a.isNone) w := fun w a n c n' c' => Lib.run_eql_slice_nil w _ _ a n c n' c' Try.underlying30
  go_enter Try.func18, Try.ntmps18
  go_wp2_with (first
    | (at_make; refine wpList_make_row rfl _ _ rfl n _ _ _ _ rfl rfl rfl rfl (by omega) ?_; intro w1 r1 b1 hs; clear hs; have h11 := h1.below b1 (Nat.le_refl _))
    | (with_reducible show wpList _ _ _ (Oper.mk (some 11) _ _ _ _ _ :: _) _ _; refine wpList_copy_row rfl _ _ rfl w.heap.size n _ _ n _ rfl rfl _ xs r1 (by simp) hx.out (Nat.le_refl _) h11 ?_; intro w2 r2 hk b2 hs; clear hk hs; have b3 := b1.trans b2; simp only [List.drop_replicate, Nat.sub_self, List.replicate_zero, List.append_nil] at r2))
  go_ret
  exact ⟨rfl, r2, b3⟩

theorem eqB_self (xs : List Int) : Hid (true = eqB xs xs) := show true = eqB xs xs by simp [eqB]
theorem eqB_nil (xs : List Int) (n : Nat) (h : xs.length = n) : Hid (((n : Int) == 0) = eqB xs []) := by
  subst h
  show _ = decide (xs = [])
  cases xs <;> simp
  omega
theorem eqB_longer (xs : List Int) (x : Int) : Hid (false = eqB xs (xs ++ [x])) := by
  show false = decide _
  symm
  simp only [decide_eq_false_iff_not]
  intro h
  have := congrArg List.length h
  simp at this
theorem eqB_longer' (xs : List Int) (x : Int) : Hid (false = eqB (xs ++ [x]) xs) := by
  show false = decide _
  symm
  simp only [decide_eq_false_iff_not]
  intro h
  have := congrArg List.length h
  simp at this
theorem eqB_set (xs : List Int) (k : Nat) (hk : k < xs.length) (u x : Int) (hu : xs.getD k 0 = u) : Hid ((u == x) = eqB xs (xs.set k x)) := by
  show (u == x) = decide _
  rw [Bool.eq_iff_iff]
  simp only [beq_iff_eq, decide_eq_true_eq]
  subst hu
  constructor
  · rintro rfl; simp [List.getD, hk]
  · intro h
    have := congrArg (fun l => l[k]?) h
    simp [hk] at this
    simpa [List.getD, hk] using this
theorem eqB_comm (xs ys : List Int) : eqB xs ys = eqB ys xs := by
  unfold eqB
  rw [Bool.eq_iff_iff]
  simp only [decide_eq_true_eq]
  exact eq_comm
theorem eqB_set' (xs : List Int) (k : Nat) (hk : k < xs.length) (u x : Int) (hu : xs.getD k 0 = u) : Hid ((u == x) = eqB (xs.set k x) xs) := by
  show _ = _
  rw [eqB_comm]; exact eqB_set xs k hk u x hu

theorem Byt.set {xs : List Int} (h : Byt xs) (k : Nat) (x : Int) (hx : 0 ≤ x ∧ x ≤ 255) : Byt (xs.set k x) := fun y hy => by
  rcases List.mem_or_eq_of_mem_set hy with h1 | rfl
  · exact h y h1
  · exact hx
theorem Byt.snoc {xs : List Int} (h : Byt xs) (x : Int) (hx : 0 ≤ x ∧ x ≤ 255) : Byt (xs ++ [x]) := fun y hy => by
  rcases List.mem_append.1 hy with h1 | h1
  · exact h y h1
  · simp at h1; subst h1; exact hx

set_option maxHeartbeats 1000000 in
theorem sees_early (a0 : Option Addr) (n c : Nat) (k x : Int) (w : World) (hn : n ≤ maxLen) (h : 524288 < n) :
    Calls Try.prog 6 #[.slice a0 n c, .int .i64 k, .int .u8 x] w fun e w' => e = .returned (.bool true) ∧ Below w.heap.size w w' := by
  have z := zz17 a0 n c k x w hn
  unfold maxLen at hn
  cases hok : okLen n 0
  all_goals
    rw [hok] at z
    go_enter Try.func6, Try.ntmps6
    go_wp2_with (go_at_call 17; refine z.mono ?_; rintro e w' ⟨rfl, rfl⟩)
    go_ret
    exact ⟨rfl, Below.refl _ _⟩

theorem snoc0 (xs : List Int) (n : Nat) : xs ++ (List.replicate (n + 1) (0 : Int)).drop n = xs ++ [0] := by
  simp [List.drop_replicate]
theorem len_snoc {xs : List Int} {n : Nat} (x : Int) (h : xs.length = n) : (xs ++ [x]).length = n + 1 := by simp [h]
theorem len_set {xs : List Int} {n : Nat} (j : Nat) (x : Int) (h : xs.length = n) : (xs.set j x).length = n := by simp [h]
theorem Row.atEnd {w : World} {g : Nat} {xs : List Int} {x : Int} (h : Row w g (xs ++ [x])) (n : Nat) (hn : xs.length = n) : w.cell? ⟨g, n, none⟩ = some (.int .u8 x) := by
  rw [h.cell n (by simp; omega)]
  subst hn
  simp [List.getD]
theorem Row.setEnd {w : World} {g : Nat} {xs : List Int} {y : Int} (h : Row w g (xs ++ [y])) (n : Nat) (hn : xs.length = n) (x : Int) : Row (w.setCell ⟨g, n, none⟩ (.int .u8 x)) g (xs ++ [x]) := by
  have := h.set n x
  subst hn
  simpa using this
theorem fourth {w w2 w3 w4 w5 : World} (b3 : Below w.heap.size w w2) (b4 : Below w2.heap.size w2 w3) (b5 : Below w3.heap.size w3 w4) (b6 : Below w3.heap.size w4 w5) (l1 : w.heap.size < w2.heap.size) (l2 : w2.heap.size < w3.heap.size) (n : Nat) (v : Value) :
    Below w.heap.size w (w5.setCell ⟨w3.heap.size, n, none⟩ v) :=
  (b3.trans ((b4.mono (Nat.le_of_lt l1)).trans ((b5.trans b6).mono (Nat.le_of_lt (Nat.lt_trans l1 l2))))).setCell (p := ⟨w3.heap.size, n, none⟩) (Nat.le_of_lt (Nat.lt_trans l1 l2)) v

set_option maxHeartbeats 2000000 in
theorem sees_some (y : Addr) (n c : Nat) (k x : Int) (xs : List Int) (w : World) (hn : n ≤ 524288) (hx : Hid (xs.length = n)) (bx : Byt xs) (hxb : 0 ≤ x ∧ x ≤ 255) (h1 : BIn w (some y) n xs) :
    Calls Try.prog 6 #[.slice (some y) n c, .int .i64 k, .int .u8 x] w fun e w' => e = .returned (.bool true) ∧ Below w.heap.size w w' := by
  have z := zz17 (some y) n c k x w (by unfold maxLen; omega)
  rw [show okLen n 0 = true from by simp [okLen]; omega] at z
  have ne := neq30
  rcases (show k < 0 ∨ (n : Int) ≤ k ∨ (0 ≤ k ∧ k < n) from by omega) with hk | hk | ⟨hk0, hk⟩
  · go_enter Try.func6, Try.ntmps6
    go_wp2_with (first
      | (go_at_call 17; refine z.mono ?_; rintro e w' ⟨rfl, rfl⟩)
      | (at_make; refine wpList_make_row rfl (.tmp 22) _ rfl n _ _ _ _ rfl rfl rfl rfl (by omega) ?_; intro w1 r1 b1 hs; clear hs; have h11 := h1.below b1 (Nat.le_refl _))
      | (with_reducible show wpList _ _ _ (Oper.mk (some 26) _ _ _ _ _ :: _) _ _; refine wpList_copy_row rfl (.tmp 24) _ rfl w.heap.size n _ _ n _ rfl rfl _ xs r1 (by simp) hx.out (Nat.le_refl _) h11 ?_; intro w2 r2 hk b2 hs; clear hk hs; have b3 := b1.trans b2; simp only [List.drop_replicate, Nat.sub_self, List.replicate_zero, List.append_nil] at r2; have l1 := r2.lt)
      | (go_at_call 18; refine (clone_some _ n _ xs _ hn hx (r2.all n hx.out)).mono ?_; rintro e w3 ⟨rfl, r3, b4⟩; have r23 := r2.below b4 r2.lt; have l2 := r3.lt)
      | (with_reducible show Calls _ 16 #[_, Value.slice none 0 0] _ _; refine (hexq (some ⟨w.heap.size, 0, none⟩) none n n 0 0 xs [] ((n : Int) == 0) w3 (eqB_nil xs n hx.out) hx.out rfl bx nilByt (r23.all n hx.out) (nilIn _ _)).mono ?_; rintro e w' ⟨rfl, rfl⟩)
      | (with_reducible show Calls _ 16 #[Value.slice (some ⟨w.heap.size, 0, none⟩) n n, Value.slice (some ⟨w2.heap.size, 0, none⟩) n n] _ _; refine (hexq _ _ _ _ _ _ xs xs true _ (eqB_self xs) hx.out hx.out bx bx (r23.all n hx.out) (r3.all n hx.out)).mono ?_; rintro e w' ⟨rfl, rfl⟩)
      | (with_reducible show Calls _ 16 #[Value.slice (some ⟨w2.heap.size, 0, none⟩) n n, Value.slice (some ⟨w.heap.size, 0, none⟩) n n] _ _; refine (hexq _ _ _ _ _ _ xs xs true _ (eqB_self xs) hx.out hx.out bx bx (r3.all n hx.out) (r23.all n hx.out)).mono ?_; rintro e w' ⟨rfl, rfl⟩)
      | (at_make; refine wpList_make_row rfl (.tmp 48) _ rfl (n + 1) _ _ _ _ rfl rfl (by omega) (by omega) (by omega) ?_; intro w4 r4 b5 hs; clear hs; have r24 := r23.below b5 (Nat.lt_trans l1 l2); have r34 := r3.below b5 l2)
      | (with_reducible show wpList _ _ _ (Oper.mk (some 52) _ _ _ _ _ :: _) _ _; refine wpList_copy_row rfl (.tmp 50) _ rfl w3.heap.size (n + 1) _ _ n _ rfl rfl _ xs r4 (by simp) hx.out (by omega) (r24.all n hx.out) ?_; intro w5 r5 hk b6 hs; clear hk hs; simp only [snoc0] at r5; have c5 := r5.atEnd n hx.out; have f5 := r5.free n; have r6 := r5.setEnd n hx.out x; have r26 := (r24.below b6 (Nat.lt_trans l1 l2)).other ⟨w3.heap.size, n, none⟩ (.int .u8 x) (Nat.ne_of_lt (Nat.lt_trans l1 l2)); have r36 := (r34.below b6 l2).other ⟨w3.heap.size, n, none⟩ (.int .u8 x) (Nat.ne_of_lt l2); have bel := fourth b3 b4 b5 b6 l1 l2 n (.int .u8 x); clear r1 r2 r3 r23 r24 r34 r4 r5 b1 b2 b3 b4 b5 b6 h11 h1 z ne)
      | (with_reducible show Calls _ 16 #[Value.slice (some ⟨w.heap.size, 0, none⟩) n n, Value.slice (some ⟨w3.heap.size, 0, none⟩) (n + 1) (n + 1)] _ _; refine (hexq _ _ _ _ _ _ xs (xs ++ [x]) false _ (eqB_longer xs x) hx.out (len_snoc x hx.out) bx (bx.snoc x hxb) (r26.all n hx.out) (r6.all (n + 1) (len_snoc x hx.out))).mono ?_; rintro e w' ⟨rfl, rfl⟩)
      | (with_reducible show Calls _ 16 #[Value.slice (some ⟨w3.heap.size, 0, none⟩) (n + 1) (n + 1), Value.slice (some ⟨w.heap.size, 0, none⟩) n n] _ _; refine (hexq _ _ _ _ _ _ (xs ++ [x]) xs false _ (eqB_longer' xs x) (len_snoc x hx.out) hx.out (bx.snoc x hxb) bx (r6.all (n + 1) (len_snoc x hx.out)) (r26.all n hx.out)).mono ?_; rintro e w' ⟨rfl, rfl⟩))
    go_ret
    exact ⟨rfl, bel⟩
  · go_enter Try.func6, Try.ntmps6
    go_wp2_with (first
      | (go_at_call 17; refine z.mono ?_; rintro e w' ⟨rfl, rfl⟩)
      | (at_make; refine wpList_make_row rfl (.tmp 22) _ rfl n _ _ _ _ rfl rfl rfl rfl (by omega) ?_; intro w1 r1 b1 hs; clear hs; have h11 := h1.below b1 (Nat.le_refl _))
      | (with_reducible show wpList _ _ _ (Oper.mk (some 26) _ _ _ _ _ :: _) _ _; refine wpList_copy_row rfl (.tmp 24) _ rfl w.heap.size n _ _ n _ rfl rfl _ xs r1 (by simp) hx.out (Nat.le_refl _) h11 ?_; intro w2 r2 hk b2 hs; clear hk hs; have b3 := b1.trans b2; simp only [List.drop_replicate, Nat.sub_self, List.replicate_zero, List.append_nil] at r2; have l1 := r2.lt)
      | (go_at_call 18; refine (clone_some _ n _ xs _ hn hx (r2.all n hx.out)).mono ?_; rintro e w3 ⟨rfl, r3, b4⟩; have r23 := r2.below b4 r2.lt; have l2 := r3.lt)
      | (with_reducible show Calls _ 16 #[_, Value.slice none 0 0] _ _; refine (hexq (some ⟨w.heap.size, 0, none⟩) none n n 0 0 xs [] ((n : Int) == 0) w3 (eqB_nil xs n hx.out) hx.out rfl bx nilByt (r23.all n hx.out) (nilIn _ _)).mono ?_; rintro e w' ⟨rfl, rfl⟩)
      | (with_reducible show Calls _ 16 #[Value.slice (some ⟨w.heap.size, 0, none⟩) n n, Value.slice (some ⟨w2.heap.size, 0, none⟩) n n] _ _; refine (hexq _ _ _ _ _ _ xs xs true _ (eqB_self xs) hx.out hx.out bx bx (r23.all n hx.out) (r3.all n hx.out)).mono ?_; rintro e w' ⟨rfl, rfl⟩)
      | (with_reducible show Calls _ 16 #[Value.slice (some ⟨w2.heap.size, 0, none⟩) n n, Value.slice (some ⟨w.heap.size, 0, none⟩) n n] _ _; refine (hexq _ _ _ _ _ _ xs xs true _ (eqB_self xs) hx.out hx.out bx bx (r3.all n hx.out) (r23.all n hx.out)).mono ?_; rintro e w' ⟨rfl, rfl⟩)
      | (at_make; refine wpList_make_row rfl (.tmp 48) _ rfl (n + 1) _ _ _ _ rfl rfl (by omega) (by omega) (by omega) ?_; intro w4 r4 b5 hs; clear hs; have r24 := r23.below b5 (Nat.lt_trans l1 l2); have r34 := r3.below b5 l2)
      | (with_reducible show wpList _ _ _ (Oper.mk (some 52) _ _ _ _ _ :: _) _ _; refine wpList_copy_row rfl (.tmp 50) _ rfl w3.heap.size (n + 1) _ _ n _ rfl rfl _ xs r4 (by simp) hx.out (by omega) (r24.all n hx.out) ?_; intro w5 r5 hk b6 hs; clear hk hs; simp only [snoc0] at r5; have c5 := r5.atEnd n hx.out; have f5 := r5.free n; have r6 := r5.setEnd n hx.out x; have r26 := (r24.below b6 (Nat.lt_trans l1 l2)).other ⟨w3.heap.size, n, none⟩ (.int .u8 x) (Nat.ne_of_lt (Nat.lt_trans l1 l2)); have r36 := (r34.below b6 l2).other ⟨w3.heap.size, n, none⟩ (.int .u8 x) (Nat.ne_of_lt l2); have bel := fourth b3 b4 b5 b6 l1 l2 n (.int .u8 x); clear r1 r2 r3 r23 r24 r34 r4 r5 b1 b2 b3 b4 b5 b6 h11 h1 z ne)
      | (with_reducible show Calls _ 16 #[Value.slice (some ⟨w.heap.size, 0, none⟩) n n, Value.slice (some ⟨w3.heap.size, 0, none⟩) (n + 1) (n + 1)] _ _; refine (hexq _ _ _ _ _ _ xs (xs ++ [x]) false _ (eqB_longer xs x) hx.out (len_snoc x hx.out) bx (bx.snoc x hxb) (r26.all n hx.out) (r6.all (n + 1) (len_snoc x hx.out))).mono ?_; rintro e w' ⟨rfl, rfl⟩)
      | (with_reducible show Calls _ 16 #[Value.slice (some ⟨w3.heap.size, 0, none⟩) (n + 1) (n + 1), Value.slice (some ⟨w.heap.size, 0, none⟩) n n] _ _; refine (hexq _ _ _ _ _ _ (xs ++ [x]) xs false _ (eqB_longer' xs x) (len_snoc x hx.out) hx.out (bx.snoc x hxb) bx (r6.all (n + 1) (len_snoc x hx.out)) (r26.all n hx.out)).mono ?_; rintro e w' ⟨rfl, rfl⟩))
    go_ret
    exact ⟨rfl, bel⟩
  · obtain ⟨j, rfl⟩ := Int.eq_ofNat_of_zero_le hk0
    have hj : j < n := by omega
    have hjl : j < xs.length := by have := hx.out; omega
    obtain ⟨u, hu⟩ : ∃ u, xs.getD j 0 = u := ⟨_, rfl⟩
    have hs1 := eqB_set xs j hjl u x hu
    have hs2 := eqB_set' xs j hjl u x hu
    have HU : Hid (xs.getD j 0 = u) := hu
    have HJ : Hid (j < xs.length) := hjl
    clear hu hjl hk hk0
    go_enter Try.func6, Try.ntmps6
    go_wp2_with (first
      | (go_at_call 17; refine z.mono ?_; rintro e w' ⟨rfl, rfl⟩)
      | (at_make; refine wpList_make_row rfl (.tmp 22) _ rfl n _ _ _ _ rfl rfl rfl rfl (by omega) ?_; intro w1 r1 b1 hs; clear hs; have h11 := h1.below b1 (Nat.le_refl _))
      | (with_reducible show wpList _ _ _ (Oper.mk (some 26) _ _ _ _ _ :: _) _ _; refine wpList_copy_row rfl (.tmp 24) _ rfl w.heap.size n _ _ n _ rfl rfl _ xs r1 (by simp) hx.out (Nat.le_refl _) h11 ?_; intro w2 r2 hk b2 hs; clear hk hs; have b3 := b1.trans b2; simp only [List.drop_replicate, Nat.sub_self, List.replicate_zero, List.append_nil] at r2; have l1 := r2.lt)
      | (go_at_call 18; refine (clone_some _ n _ xs _ hn hx (r2.all n hx.out)).mono ?_; rintro e w3 ⟨rfl, r3, b4⟩; have r23 := r2.below b4 r2.lt; have l2 := r3.lt)
      | (with_reducible show Calls _ 16 #[_, Value.slice none 0 0] _ _; refine (hexq (some ⟨w.heap.size, 0, none⟩) none n n 0 0 xs [] ((n : Int) == 0) w3 (eqB_nil xs n hx.out) hx.out rfl bx nilByt (r23.all n hx.out) (nilIn _ _)).mono ?_; rintro e w' ⟨rfl, rfl⟩)
      | (with_reducible show Calls _ 16 #[Value.slice (some ⟨w.heap.size, 0, none⟩) n n, Value.slice (some ⟨w2.heap.size, 0, none⟩) n n] _ _; refine (hexq _ _ _ _ _ _ xs (xs.set j x) (u == x) _ hs1 hx.out (len_set j x hx.out) bx (bx.set j x hxb) (r27.all n hx.out) (r37.all n (len_set j x hx.out))).mono ?_; rintro e w' ⟨rfl, rfl⟩)
      | (with_reducible show Calls _ 16 #[Value.slice (some ⟨w2.heap.size, 0, none⟩) n n, Value.slice (some ⟨w.heap.size, 0, none⟩) n n] _ _; refine (hexq _ _ _ _ _ _ (xs.set j x) xs (u == x) _ hs2 (len_set j x hx.out) hx.out (bx.set j x hxb) bx (r37.all n (len_set j x hx.out)) (r27.all n hx.out)).mono ?_; rintro e w' ⟨rfl, rfl⟩)
      | (with_reducible show Calls _ 16 #[Value.slice (some ⟨w.heap.size, 0, none⟩) n n, Value.slice (some ⟨w2.heap.size, 0, none⟩) n n] _ _; refine (hexq _ _ _ _ _ _ xs xs true _ (eqB_self xs) hx.out hx.out bx bx (r23.all n hx.out) (r3.all n hx.out)).mono ?_; rintro e w' ⟨rfl, rfl⟩)
      | (with_reducible show Calls _ 16 #[Value.slice (some ⟨w2.heap.size, 0, none⟩) n n, Value.slice (some ⟨w.heap.size, 0, none⟩) n n] _ _; refine (hexq _ _ _ _ _ _ xs xs true _ (eqB_self xs) hx.out hx.out bx bx (r3.all n hx.out) (r23.all n hx.out)).mono ?_; rintro e w' ⟨rfl, rfl⟩)
      | (at_make; refine wpList_make_row rfl (.tmp 48) _ rfl (n + 1) _ _ _ _ rfl rfl (by omega) (by omega) (by omega) ?_; intro w4 r4 b5 hs; clear hs; have r24 := r23.below b5 (Nat.lt_trans l1 l2); have r34 := r3.below b5 l2)
      | (with_reducible show wpList _ _ _ (Oper.mk (some 52) _ _ _ _ _ :: _) _ _; refine wpList_copy_row rfl (.tmp 50) _ rfl w3.heap.size (n + 1) _ _ n _ rfl rfl _ xs r4 (by simp) hx.out (by omega) (r24.all n hx.out) ?_; intro w5 r5 hk b6 hs; clear hk hs; simp only [snoc0] at r5; have c5 := r5.atEnd n hx.out; have f5 := r5.free n; have r6 := r5.setEnd n hx.out x; have r26 := (r24.below b6 (Nat.lt_trans l1 l2)).other ⟨w3.heap.size, n, none⟩ (.int .u8 x) (Nat.ne_of_lt (Nat.lt_trans l1 l2)); have r36 := (r34.below b6 l2).other ⟨w3.heap.size, n, none⟩ (.int .u8 x) (Nat.ne_of_lt l2); have bel := fourth b3 b4 b5 b6 l1 l2 n (.int .u8 x); have r27 := r26.other ⟨w2.heap.size, j, none⟩ (.int .u8 x) (Nat.ne_of_lt l1); have r37 := r36.set j x; have c6 := r36.cell j HJ.out; have f6 := r36.free j; have c7 := r27.cell j HJ.out; rw [HU.out] at c6 c7; have bel2 := bel.setCell (p := ⟨w2.heap.size, j, none⟩) (Nat.le_of_lt l1) (.int .u8 x); clear r1 r2 r3 r23 r24 r34 r4 r5 b1 b2 b3 b4 b5 b6 h11 h1 z ne)
      | (with_reducible show Calls _ 16 #[Value.slice (some ⟨w.heap.size, 0, none⟩) n n, Value.slice (some ⟨w3.heap.size, 0, none⟩) (n + 1) (n + 1)] _ _; refine (hexq _ _ _ _ _ _ xs (xs ++ [x]) false _ (eqB_longer xs x) hx.out (len_snoc x hx.out) bx (bx.snoc x hxb) (r26.all n hx.out) (r6.all (n + 1) (len_snoc x hx.out))).mono ?_; rintro e w' ⟨rfl, rfl⟩)
      | (with_reducible show Calls _ 16 #[Value.slice (some ⟨w3.heap.size, 0, none⟩) (n + 1) (n + 1), Value.slice (some ⟨w.heap.size, 0, none⟩) n n] _ _; refine (hexq _ _ _ _ _ _ (xs ++ [x]) xs false _ (eqB_longer' xs x) (len_snoc x hx.out) hx.out (bx.snoc x hxb) bx (r6.all (n + 1) (len_snoc x hx.out)) (r26.all n hx.out)).mono ?_; rintro e w' ⟨rfl, rfl⟩))
    go_ret
    exact ⟨rfl, bel2⟩
end Go.Proofs.Qxb6612733a.Hex
