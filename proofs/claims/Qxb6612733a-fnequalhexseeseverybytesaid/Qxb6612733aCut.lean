/-
  THE WALK OF 'FnEqualHexAtAnyCut'.
-/
import Derived.Test.Qxb6612733aMem
import Derived.WalkSpells
import Derived.BigQuiet
import Derived.Handy
namespace Go.Proofs.Qxb6612733a.Hex
open Go.RowKit

theorem neq30 (w : World) (a : Option Addr) (n c n' c' : Nat) : (binOp .neq 30 (.slice a n c) (.slice none n' c')).run Try.prog w = .ok (.bool (!a.isNone)) w :=
  run_neq_slice_nil_any w 30 5 a n c n' c' Try.underlying30

set_option maxHeartbeats 1000000 in
theorem cut_early (a0 : Option Addr) (n c : Nat) (a1 : Option Addr) (m d : Nat) (i : Int) (w : World) (hn : n ≤ maxLen) (hm : m ≤ maxLen) 
    (h : okLen n m = false ∨ 524288 < n ∨ 524288 < m ∨ i < 0 ∨ (n : Int) < i ∨ (m : Int) < i) :
    Calls Try.prog 5 #[.slice a0 n c, .slice a1 m d, .int .i64 i] w fun e w' => e = .returned (.bool true) ∧ Below w.heap.size w w' := by
  have z := zz15 a0 a1 n c m d i w hn hm
  unfold maxLen at hn hm
  cases hok : okLen n m
  · rw [hok] at z
    go_enter Try.func5, Try.ntmps5
    go_wp2_with (go_at_call 15; refine z.mono ?_; rintro e w' ⟨rfl, rfl⟩)
    go_ret
    exact ⟨rfl, Below.refl _ _⟩
  · rw [hok] at z
    by_cases h1 : 524288 < n
    · go_enter Try.func5, Try.ntmps5
      go_wp2_with (go_at_call 15; refine z.mono ?_; rintro e w' ⟨rfl, rfl⟩)
      go_ret
      exact ⟨rfl, Below.refl _ _⟩
    by_cases h2 : 524288 < m
    · go_enter Try.func5, Try.ntmps5
      go_wp2_with (go_at_call 15; refine z.mono ?_; rintro e w' ⟨rfl, rfl⟩)
      go_ret
      exact ⟨rfl, Below.refl _ _⟩
    by_cases h3 : i < 0
    · go_enter Try.func5, Try.ntmps5
      go_wp2_with (go_at_call 15; refine z.mono ?_; rintro e w' ⟨rfl, rfl⟩)
      go_ret
      exact ⟨rfl, Below.refl _ _⟩
    by_cases h4 : (n : Int) < i
    · go_enter Try.func5, Try.ntmps5
      go_wp2_with (go_at_call 15; refine z.mono ?_; rintro e w' ⟨rfl, rfl⟩)
      go_ret
      exact ⟨rfl, Below.refl _ _⟩
    have h5 : (m : Int) < i := by rcases h with h | h | h | h | h | h <;> first | omega | simp_all
    go_enter Try.func5, Try.ntmps5
    go_wp2_with (go_at_call 15; refine z.mono ?_; rintro e w' ⟨rfl, rfl⟩)
    go_ret
    exact ⟨rfl, Below.refl _ _⟩

/-- A slice that came in is where it was. -/
theorem BIn.below {B : Nat} {w w' : World} {p : Option Addr} {n : Nat} {xs : List Int} (h : BIn w p n xs) (hb : Below B w w') (hB : w.heap.size ≤ B) : BIn w' p n xs := fun hn => by
  obtain ⟨b, o, rfl, hc⟩ := h hn
  exact ⟨b, o, rfl, fun i hi => by rw [hb.cell (p := ⟨b, o + i, none⟩) (Nat.lt_of_lt_of_le (World.lt_of_cell (hc i hi)) hB)]; exact hc i hi⟩

theorem Row.all {w : World} {g : Nat} {xs : List Int} (h : Row w g xs) (n : Nat) (hn : xs.length = n) : BIn w (some ⟨g, 0, none⟩) n xs := by
  have := h.bin 0 n (by omega)
  simpa using this

theorem hexq (p q : Option Addr) (n c m d : Nat) (xs ys : List Int) (E : Bool) (w : World) (hE : Hid (E = eqB xs ys)) (hx : xs.length = n) (hy : ys.length = m) (bx : Byt xs) (hb : Byt ys) (h1 : BIn w p n xs) (h2 : BIn w q m ys) :
    Calls Try.prog 16 #[.slice p n c, .slice q m d] w fun e w' => e = .returned (.bool E) ∧ w = w' := by
  rw [hE.out]; exact hex16 p q n c m d xs ys w hx hy bx hb h1 h2

theorem BIn.drewN {w : World} {p : Option Addr} {n : Nat} {xs : List Int} (h : BIn w p n xs) (k : Nat) : BIn (w.drewN k) p n xs := fun hn => by
  obtain ⟨b, o, rfl, hc⟩ := h hn
  exact ⟨b, o, rfl, fun i hi => hc i hi⟩

/-- The same, in a world behind some draws: what a quiet region asks. -/
theorem hexn (p q : Option Addr) (n c m d : Nat) (xs ys : List Int) (E : Bool) (w : World) (hE : Hid (E = eqB xs ys)) (hx : xs.length = n) (hy : ys.length = m) (bx : Byt xs) (hb : Byt ys) (h1 : BIn w p n xs) (h2 : BIn w q m ys) :
    Hid (∀ nq, Calls Try.prog 16 #[.slice p n c, .slice q m d] (w.drewN nq) fun e w' => e = .returned (.bool E) ∧ w' = w.drewN nq) := fun nq =>
  (hexq p q n c m d xs ys E (w.drewN nq) hE hx hy bx hb (h1.drewN nq) (h2.drewN nq)).mono fun _ _ ⟨h, k⟩ => ⟨h, k.symm⟩

theorem afterN {w w4 w5 : World} {nq : Nat} (h : Below w.heap.size w w4) (k : Below (w4.drewN nq).heap.size (w4.drewN nq) w5) : Below w.heap.size w w5 :=
  h.trans ((⟨rfl, rfl, rfl, Nat.le_refl _, fun _ _ => rfl⟩ : Below w.heap.size w4 (w4.drewN nq)).trans (k.mono h.size))

theorem Byt.take {xs : List Int} (h : Byt xs) (i : Nat) : Byt (xs.take i) := fun x hx => h x (List.mem_of_mem_take hx)
theorem Byt.drop {xs : List Int} (h : Byt xs) (i : Nat) : Byt (xs.drop i) := fun x hx => h x (List.mem_of_mem_drop hx)

theorem BIn.head {w : World} {p : Option Addr} {n : Nat} {xs : List Int} (h : BIn w p n xs) (i : Nat) (hi : i ≤ n) : BIn w p i (xs.take i) := fun hn => by
  obtain ⟨b, o, rfl, hc⟩ := h (by omega)
  exact ⟨b, o, rfl, fun j hj => by rw [hc j (by omega)]; simp [List.getD, hj]⟩

/-- THE PLAIN LAW: equal at the whole is equal at the head and at the tail. -/
theorem cut_law (xs ys : List Int) (i : Nat) : eqB xs ys = (eqB (xs.take i) (ys.take i) && eqB (xs.drop i) (ys.drop i)) := by
  unfold eqB
  rw [Bool.eq_iff_iff]
  simp only [Bool.and_eq_true, decide_eq_true_eq]
  constructor
  · rintro rfl; exact ⟨rfl, rfl⟩
  · rintro ⟨h1, h2⟩; rw [← List.take_append_drop i xs, h1, h2, List.take_append_drop]

theorem three (xs ys : List Int) (i : Nat) : ∃ E T D : Bool, Hid (E = eqB xs ys) ∧ Hid (T = eqB (xs.take i) (ys.take i)) ∧ Hid (D = eqB (xs.drop i) (ys.drop i)) ∧ Hid ((T = false ∧ E = false) ∨ (T = true ∧ D = true ∧ E = true) ∨ (T = true ∧ D = false ∧ E = false)) :=
  ⟨_, _, _, rfl, rfl, rfl, by
    show _ ∨ _
    rw [cut_law xs ys i]
    cases eqB (xs.take i) (ys.take i) <;> cases eqB (xs.drop i) (ys.drop i) <;> simp⟩

theorem eq14' (p q : Option Addr) (n c m d : Nat) (xs ys : List Int) (E : Bool) (w : World) (hE : Hid (E = eqB xs ys)) (hx : xs.length = n) (hy : ys.length = m) (hn : n ≤ 524288) (hm : m ≤ 524288) (h1 : BIn w p n xs) (h2 : BIn w q m ys) :
    Calls Try.prog 14 #[.slice p n c, .slice q m d] w fun e w' => e = .returned (.bool E) ∧ Below w.heap.size w w' := by
  rw [hE.out]; exact eq14 p q n c m d xs ys w hx hy (by unfold maxLen; omega) (by unfold maxLen; omega) h1 h2

set_option maxHeartbeats 2000000 in
theorem cut_nn (x : Addr) (n c : Nat) (y : Addr) (m d : Nat) (i : Nat) (xs ys : List Int) (w : World) (hok : okLen n m = true) (hn : n ≤ 524288) (hm : m ≤ 524288) (hi0 : i ≤ n) (hi1 : i ≤ m)
    (hx : Hid (xs.length = n)) (hy : Hid (ys.length = m)) (bx : Byt xs) (hb : Byt ys) (h1 : BIn w (some x) n xs) (h2 : BIn w (some y) m ys) :
    Calls Try.prog 5 #[.slice (some x) n c, .slice (some y) m d, .int .i64 i] w fun e w' => e = .returned (.bool true) ∧ Below w.heap.size w w' := by
  have z := zz15 (some x) (some y) n c m d i w (by unfold maxLen; omega) (by unfold maxLen; omega)
  rw [hok] at z
  have ne := neq30
  obtain ⟨E, T, D, hE, hT, hD, hall⟩ := three xs ys i
  go_enter Try.func5, Try.ntmps5
  go_wp2_with (first
    | (go_at_call 15; refine z.mono ?_; rintro e w' ⟨rfl, rfl⟩)
    | (at_make; refine wpList_make_row rfl (.tmp 39) _ rfl n _ _ _ _ rfl rfl rfl rfl (by omega) ?_; intro w1 r1 b1 hs; clear hs; have h11 := h1.below b1 (Nat.le_refl _))
    | (with_reducible show wpList _ _ _ (Oper.mk (some 43) _ _ _ _ _ :: _) _ _; refine wpList_copy_row rfl (.tmp 41) _ rfl w.heap.size n _ _ n _ rfl rfl _ xs r1 (by simp) hx.out (Nat.le_refl _) h11 ?_; intro w2 r2 hk b2 hs; clear hk hs; have b3 := b1.trans b2; have h22 := h2.below b3 (Nat.le_refl _); simp only [List.drop_replicate, Nat.sub_self, List.replicate_zero, List.append_nil] at r2)
    | (at_make; refine wpList_make_row rfl (.tmp 48) _ rfl m _ _ _ _ rfl rfl rfl rfl (by omega) ?_; intro w3 r3 b4 hs; clear hs; have h33 := h22.below b4 (Nat.le_refl _); have r23 := r2.below b4 r2.lt)
    | (with_reducible show wpList _ _ _ (Oper.mk (some 52) _ _ _ _ _ :: _) _ _; refine wpList_copy_row rfl (.tmp 50) _ rfl w2.heap.size m _ _ m _ rfl rfl _ ys r3 (by simp) hy.out (Nat.le_refl _) h33 ?_; intro w4 r4 hk b5 hs; clear hk hs; simp only [List.drop_replicate, Nat.sub_self, List.replicate_zero, List.append_nil] at r4; have r24 := r23.below b5 r2.lt; have bel := b3.trans ((b4.trans b5).mono (Nat.le_of_lt r2.lt)))
    | (go_at_call 16; refine (hexq _ _ _ _ _ _ xs ys E _ hE hx.out hy.out bx hb (r24.all n hx.out) (r4.all m hy.out)).mono ?_; rintro e w' ⟨rfl, rfl⟩))
  have hx' := hx.out
  have hy' := hy.out
  have k1 := hexn (some ⟨w.heap.size, 0, none⟩) (some ⟨w2.heap.size, 0, none⟩) i n i m (xs.take i) (ys.take i) T w4 hT (by simp; omega) (by simp; omega) (bx.take i) (hb.take i) ((r24.all n hx').head i hi0) ((r4.all m hy').head i hi1)
  have k2 : ∀ p q : Option Addr, (i < n → p = some ⟨w.heap.size, i, none⟩) → (i < m → q = some ⟨w2.heap.size, i, none⟩) → _ := fun p q hp hq =>
    hexn p q (n - i) (n - i) (m - i) (m - i) (xs.drop i) (ys.drop i) D w4 hD (by simp; omega) (by simp; omega) (bx.drop i) (hb.drop i)
      (fun h0 => by rw [hp (by omega)]; exact r24.bin i (n - i) (by omega) h0) (fun h0 => by rw [hq (by omega)]; exact r4.bin i (m - i) (by omega) h0)
  have k3 := eq14' (some ⟨w.heap.size, 0, none⟩) (some ⟨w2.heap.size, 0, none⟩) n n m m xs ys E
  clear hx' hy' z h1 h2 h11 h22 h33 r1 r3 r2 r23 b1 b2 b3 b4 b5 ne
  rcases hall.out with ⟨rfl, rfl⟩ | ⟨rfl, rfl, rfl⟩ | ⟨rfl, rfl, rfl⟩
  · clear k2 hall
    go_quiet ((go_at_call 16; exact Calls.quiet_of_same (k1.out _)))
    go_wp2_with (go_at_call 14; refine (k3 _ hE hx.out hy.out hn hm ((r24.all _ hx.out).drewN _) ((r4.all _ hy.out).drewN _)).mono ?_; rintro e w5 ⟨rfl, b6⟩)
    go_ret
    exact ⟨rfl, afterN bel b6⟩
  · by_cases hin : i < n
    · by_cases him : i < m
      · have k2' := k2 (some ⟨w.heap.size, i, none⟩) (some ⟨w2.heap.size, i, none⟩) (fun _ => rfl) (fun _ => rfl)
        clear k2 hall
        go_quiet ((first | (go_at_call_of 16 (Value.slice (some ⟨w.heap.size, 0, none⟩) i n); exact Calls.quiet_of_same (k1.out _)) | (go_at_call 16; exact Calls.quiet_of_same (k2'.out _))))
        go_wp2_with (go_at_call 14; refine (k3 _ hE hx.out hy.out hn hm ((r24.all _ hx.out).drewN _) ((r4.all _ hy.out).drewN _)).mono ?_; rintro e w5 ⟨rfl, b6⟩)
        go_ret
        exact ⟨rfl, afterN bel b6⟩
      · have k2' := k2 (some ⟨w.heap.size, i, none⟩) (some ⟨w2.heap.size, 0, none⟩) (fun _ => rfl) (fun h => absurd h him)
        clear k2 hall
        obtain rfl : i = m := by omega
        simp only [Nat.sub_self] at k2'
        go_quiet ((first | (go_at_call_of 16 (Value.slice (some ⟨w.heap.size, 0, none⟩) i n); exact Calls.quiet_of_same (k1.out _)) | (go_at_call 16; exact Calls.quiet_of_same (k2'.out _))))
        go_wp2_with (go_at_call 14; refine (k3 _ hE hx.out hy.out hn hm ((r24.all _ hx.out).drewN _) ((r4.all _ hy.out).drewN _)).mono ?_; rintro e w5 ⟨rfl, b6⟩)
        go_ret
        exact ⟨rfl, afterN bel b6⟩
    · by_cases him : i < m
      · have k2' := k2 (some ⟨w.heap.size, 0, none⟩) (some ⟨w2.heap.size, i, none⟩) (fun h => absurd h hin) (fun _ => rfl)
        clear k2 hall
        obtain rfl : i = n := by omega
        simp only [Nat.sub_self] at k2'
        go_quiet ((first | (go_at_call_of 16 (Value.slice (some ⟨w2.heap.size, 0, none⟩) i m); exact Calls.quiet_of_same (k1.out _)) | (go_at_call 16; exact Calls.quiet_of_same (k2'.out _))))
        go_wp2_with (go_at_call 14; refine (k3 _ hE hx.out hy.out hn hm ((r24.all _ hx.out).drewN _) ((r4.all _ hy.out).drewN _)).mono ?_; rintro e w5 ⟨rfl, b6⟩)
        go_ret
        exact ⟨rfl, afterN bel b6⟩
      · have k2' := k2 (some ⟨w.heap.size, 0, none⟩) (some ⟨w2.heap.size, 0, none⟩) (fun h => absurd h hin) (fun h => absurd h him)
        clear k2 hall
        obtain rfl : i = n := by omega
        obtain rfl : i = m := by omega
        simp only [Nat.sub_self] at k2'
        go_quiet ((first | (go_at_call_of 16 (Value.slice (some ⟨w2.heap.size, 0, none⟩) i i); exact Calls.quiet_of_same (k1.out _)) | (go_at_call 16; exact Calls.quiet_of_same (k2'.out _))))
        go_wp2_with (go_at_call 14; refine (k3 _ hE hx.out hy.out hn hm ((r24.all _ hx.out).drewN _) ((r4.all _ hy.out).drewN _)).mono ?_; rintro e w5 ⟨rfl, b6⟩)
        go_ret
        exact ⟨rfl, afterN bel b6⟩
  · by_cases hin : i < n
    · by_cases him : i < m
      · have k2' := k2 (some ⟨w.heap.size, i, none⟩) (some ⟨w2.heap.size, i, none⟩) (fun _ => rfl) (fun _ => rfl)
        clear k2 hall
        go_quiet ((first | (go_at_call_of 16 (Value.slice (some ⟨w.heap.size, 0, none⟩) i n); exact Calls.quiet_of_same (k1.out _)) | (go_at_call 16; exact Calls.quiet_of_same (k2'.out _))))
        go_wp2_with (go_at_call 14; refine (k3 _ hE hx.out hy.out hn hm ((r24.all _ hx.out).drewN _) ((r4.all _ hy.out).drewN _)).mono ?_; rintro e w5 ⟨rfl, b6⟩)
        go_ret
        exact ⟨rfl, afterN bel b6⟩
      · have k2' := k2 (some ⟨w.heap.size, i, none⟩) (some ⟨w2.heap.size, 0, none⟩) (fun _ => rfl) (fun h => absurd h him)
        clear k2 hall
        obtain rfl : i = m := by omega
        simp only [Nat.sub_self] at k2'
        go_quiet ((first | (go_at_call_of 16 (Value.slice (some ⟨w.heap.size, 0, none⟩) i n); exact Calls.quiet_of_same (k1.out _)) | (go_at_call 16; exact Calls.quiet_of_same (k2'.out _))))
        go_wp2_with (go_at_call 14; refine (k3 _ hE hx.out hy.out hn hm ((r24.all _ hx.out).drewN _) ((r4.all _ hy.out).drewN _)).mono ?_; rintro e w5 ⟨rfl, b6⟩)
        go_ret
        exact ⟨rfl, afterN bel b6⟩
    · by_cases him : i < m
      · have k2' := k2 (some ⟨w.heap.size, 0, none⟩) (some ⟨w2.heap.size, i, none⟩) (fun h => absurd h hin) (fun _ => rfl)
        clear k2 hall
        obtain rfl : i = n := by omega
        simp only [Nat.sub_self] at k2'
        go_quiet ((first | (go_at_call_of 16 (Value.slice (some ⟨w2.heap.size, 0, none⟩) i m); exact Calls.quiet_of_same (k1.out _)) | (go_at_call 16; exact Calls.quiet_of_same (k2'.out _))))
        go_wp2_with (go_at_call 14; refine (k3 _ hE hx.out hy.out hn hm ((r24.all _ hx.out).drewN _) ((r4.all _ hy.out).drewN _)).mono ?_; rintro e w5 ⟨rfl, b6⟩)
        go_ret
        exact ⟨rfl, afterN bel b6⟩
      · have k2' := k2 (some ⟨w.heap.size, 0, none⟩) (some ⟨w2.heap.size, 0, none⟩) (fun h => absurd h hin) (fun h => absurd h him)
        clear k2 hall
        obtain rfl : i = n := by omega
        obtain rfl : i = m := by omega
        simp only [Nat.sub_self] at k2'
        go_quiet ((first | (go_at_call_of 16 (Value.slice (some ⟨w2.heap.size, 0, none⟩) i i); exact Calls.quiet_of_same (k1.out _)) | (go_at_call 16; exact Calls.quiet_of_same (k2'.out _))))
        go_wp2_with (go_at_call 14; refine (k3 _ hE hx.out hy.out hn hm ((r24.all _ hx.out).drewN _) ((r4.all _ hy.out).drewN _)).mono ?_; rintro e w5 ⟨rfl, b6⟩)
        go_ret
        exact ⟨rfl, afterN bel b6⟩
end Go.Proofs.Qxb6612733a.Hex
