/-
  THE WALK OF 'FnEqualHexAtAnyCut' WHERE ONE OF THE SLICES IS NIL (the cut is then 0), AND THE WALK WHOLE.
-/
import Derived.Test.Qxb6612733aCut
namespace Go.Proofs.Qxb6612733a.Hex
open Go.RowKit

theorem one (xs ys : List Int) : ∃ E : Bool, Hid (E = eqB xs ys) := ⟨_, rfl⟩
theorem nilIn (w : World) (p : Option Addr) : BIn w p 0 [] := fun h => absurd h (Nat.lt_irrefl 0)
theorem nilByt : Byt [] := fun x hx => by cases hx

set_option maxHeartbeats 2000000 in
theorem cut_00 (w : World) :
    Calls Try.prog 5 #[.slice none 0 0, .slice none 0 0, .int .i64 0] w fun e w' => e = .returned (.bool true) ∧ Below w.heap.size w w' := by
  have z := zz15 none none 0 0 0 0 0 w (by unfold maxLen; omega) (by unfold maxLen; omega)
  rw [show okLen 0 0 = true from rfl] at z
  have ne := neq30
  have hE : Hid (true = eqB [] []) := rfl
  have k0 := hexq none none 0 0 0 0 [] [] true w hE rfl rfl nilByt nilByt (nilIn _ _) (nilIn _ _)
  have k1 := hexn none none 0 0 0 0 [] [] true w hE rfl rfl nilByt nilByt (nilIn _ _) (nilIn _ _)
  have k3 := fun w => eq14' none none 0 0 0 0 [] [] true w hE rfl rfl (by omega) (by omega) (nilIn _ _) (nilIn _ _)
  go_enter Try.func5, Try.ntmps5
  go_wp2_with (first
    | (go_at_call 15; refine z.mono ?_; rintro e w' ⟨rfl, rfl⟩)
    | (go_at_call 16; refine k0.mono ?_; rintro e w' ⟨rfl, rfl⟩))
  clear z ne k0
  go_quiet ((go_at_call 16; exact Calls.quiet_of_same (k1.out _)))
  go_wp2_with (go_at_call 14; refine (k3 _).mono ?_; rintro e w5 ⟨rfl, b6⟩)
  go_ret
  exact ⟨rfl, afterN (Below.refl _ _) b6⟩

set_option maxHeartbeats 2000000 in
theorem cut_0n (y : Addr) (m d : Nat) (ys : List Int) (w : World) (hm : m ≤ 524288) (hy : Hid (ys.length = m)) (hb : Byt ys) (h2 : BIn w (some y) m ys) :
    Calls Try.prog 5 #[.slice none 0 0, .slice (some y) m d, .int .i64 0] w fun e w' => e = .returned (.bool true) ∧ Below w.heap.size w w' := by
  have z := zz15 none (some y) 0 0 m d 0 w (by unfold maxLen; omega) (by unfold maxLen; omega)
  rw [show okLen 0 m = true from by simp [okLen]; omega] at z
  have ne := neq30
  obtain ⟨E, hE⟩ := one [] ys
  have hT : Hid (true = eqB [] []) := rfl
  go_enter Try.func5, Try.ntmps5
  go_wp2_with (first
    | (go_at_call 15; refine z.mono ?_; rintro e w' ⟨rfl, rfl⟩)
    | (at_make; refine wpList_make_row rfl (.tmp 48) _ rfl m _ _ _ _ rfl rfl rfl rfl (by omega) ?_; intro w3 r3 b4 hs; clear hs; have h33 := h2.below b4 (Nat.le_refl _))
    | (with_reducible show wpList _ _ _ (Oper.mk (some 52) _ _ _ _ _ :: _) _ _; refine wpList_copy_row rfl (.tmp 50) _ rfl w.heap.size m _ _ m _ rfl rfl _ ys r3 (by simp) hy.out (Nat.le_refl _) h33 ?_; intro w4 r4 hk b5 hs; clear hk hs; simp only [List.drop_replicate, Nat.sub_self, List.replicate_zero, List.append_nil] at r4; have bel := b4.trans b5)
    | (go_at_call 16; refine (hexq _ _ _ _ _ _ [] ys E _ hE rfl hy.out nilByt hb (nilIn _ _) (r4.all m hy.out)).mono ?_; rintro e w' ⟨rfl, rfl⟩))
  have k1 := hexn none (some ⟨w.heap.size, 0, none⟩) 0 0 0 m [] [] true w4 hT rfl rfl nilByt nilByt (nilIn _ _) (nilIn _ _)
  have k2 := hexn none (some ⟨w.heap.size, 0, none⟩) 0 0 m m [] ys E w4 hE rfl hy.out nilByt hb (nilIn _ _) (r4.all m hy.out)
  have k3 := fun w' => eq14' none (some ⟨w.heap.size, 0, none⟩) 0 0 m m [] ys E w' hE rfl hy.out (by omega) hm (nilIn _ _)
  clear z h2 h33 r3 b4 b5 ne
  go_quiet ((first | (go_at_call_of 16 (Value.slice (some ⟨w.heap.size, 0, none⟩) 0 m); exact Calls.quiet_of_same (k1.out _)) | (go_at_call 16; exact Calls.quiet_of_same (k2.out _))))
  cases E
  all_goals
    go_wp2_with (go_at_call 14; refine (k3 _ ((r4.all _ hy.out).drewN _)).mono ?_; rintro e w5 ⟨rfl, b6⟩)
    go_ret
    exact ⟨rfl, afterN bel b6⟩

set_option maxHeartbeats 2000000 in
theorem cut_n0 (x : Addr) (n c : Nat) (xs : List Int) (w : World) (hn : n ≤ 524288) (hx : Hid (xs.length = n)) (hb : Byt xs) (h1 : BIn w (some x) n xs) :
    Calls Try.prog 5 #[.slice (some x) n c, .slice none 0 0, .int .i64 0] w fun e w' => e = .returned (.bool true) ∧ Below w.heap.size w w' := by
  have z := zz15 (some x) none n c 0 0 0 w (by unfold maxLen; omega) (by unfold maxLen; omega)
  rw [show okLen n 0 = true from by simp [okLen]; omega] at z
  have ne := neq30
  obtain ⟨E, hE⟩ := one xs []
  have hT : Hid (true = eqB [] []) := rfl
  go_enter Try.func5, Try.ntmps5
  go_wp2_with (first
    | (go_at_call 15; refine z.mono ?_; rintro e w' ⟨rfl, rfl⟩)
    | (at_make; refine wpList_make_row rfl (.tmp 39) _ rfl n _ _ _ _ rfl rfl rfl rfl (by omega) ?_; intro w3 r3 b4 hs; clear hs; have h33 := h1.below b4 (Nat.le_refl _))
    | (with_reducible show wpList _ _ _ (Oper.mk (some 43) _ _ _ _ _ :: _) _ _; refine wpList_copy_row rfl (.tmp 41) _ rfl w.heap.size n _ _ n _ rfl rfl _ xs r3 (by simp) hx.out (Nat.le_refl _) h33 ?_; intro w4 r4 hk b5 hs; clear hk hs; simp only [List.drop_replicate, Nat.sub_self, List.replicate_zero, List.append_nil] at r4; have bel := b4.trans b5)
    | (go_at_call 16; refine (hexq _ _ _ _ _ _ xs [] E _ hE hx.out rfl hb nilByt (r4.all n hx.out) (nilIn _ _)).mono ?_; rintro e w' ⟨rfl, rfl⟩))
  have k1 := hexn (some ⟨w.heap.size, 0, none⟩) none 0 n 0 0 [] [] true w4 hT rfl rfl nilByt nilByt (nilIn _ _) (nilIn _ _)
  have k2 := hexn (some ⟨w.heap.size, 0, none⟩) none n n 0 0 xs [] E w4 hE hx.out rfl hb nilByt (r4.all n hx.out) (nilIn _ _)
  have k3 := fun w' h => eq14' (some ⟨w.heap.size, 0, none⟩) none n n 0 0 xs [] E w' hE hx.out rfl hn (by omega) h (nilIn _ _)
  clear z h1 h33 r3 b4 b5 ne
  go_quiet ((first | (go_at_call_of 16 (Value.slice (some ⟨w.heap.size, 0, none⟩) 0 n); exact Calls.quiet_of_same (k1.out _)) | (go_at_call 16; exact Calls.quiet_of_same (k2.out _))))
  cases E
  all_goals
    go_wp2_with (go_at_call 14; refine (k3 _ ((r4.all _ hx.out).drewN _)).mono ?_; rintro e w5 ⟨rfl, b6⟩)
    go_ret
    exact ⟨rfl, afterN bel b6⟩

theorem head_of {w : World} {x : Addr} {n : Nat} {z : List Int} (hz : n ≤ z.length) (h : ∀ i, i < z.length → w.cell? (x.add i) = some (.int .u8 (z.getD i 0))) : BIn w (some x) n (z.take n) := fun hn => by
  obtain ⟨b, o, s⟩ := x
  obtain rfl : s = none := by simpa [Addr.add] using World.cell?_spot (h 0 (by omega))
  refine ⟨b, o, rfl, fun i hi => ?_⟩
  have hplain : (⟨b, o, none⟩ : Addr).add i = ⟨b, o + i, none⟩ := by unfold Addr.add; split <;> simp_all
  rw [← hplain, h i (by omega)]
  simp [List.getD, hi]

theorem byt_of {z : List Int} (n : Nat) (h : ∀ k ∈ z, (Lit.int .u8 k).wf = true) : Byt (z.take n) := fun x hx => by
  exact bounds_u8 (h x (List.mem_of_mem_take hx))

/-- WHAT THE WALK IS TOLD OF A SLICE OF INTEGERS THAT CAME IN (the shell's own words). -/
def IsRow (k : IntKind) (w : World) (a : Option Addr) (len cap : Nat) (zs : List Int) : Prop :=
  (a = none ∧ len = 0 ∧ cap = 0 ∧ zs = []) ∨
  ∃ x, a = some x ∧ len ≤ cap ∧ cap ≤ maxLen ∧ zs.length = cap ∧ (∀ i, i < zs.length → w.cell? (x.add i) = some (.int k (zs.getD i 0))) ∧ ∀ n ∈ zs, (Lit.int k n).wf = true

theorem IsRow.len {k : IntKind} {w : World} {a : Option Addr} {len cap : Nat} {zs : List Int} (h : IsRow k w a len cap zs) : len ≤ maxLen := by
  rcases h with ⟨_, rfl, _, _⟩ | ⟨_, _, h1, h2, _⟩
  · exact Nat.zero_le _
  · omega

/-- THE WALK, WHOLE. -/
theorem cut_all (a0 : Option Addr) (len0 cap0 : Nat) (z0 : List Int) (a1 : Option Addr) (len1 cap1 : Nat) (z1 : List Int) (a2 : Int) (w : World) (w0 : IsRow .u8 w a0 len0 cap0 z0) (w1 : IsRow .u8 w a1 len1 cap1 z1) :
    Calls Try.prog 5 #[.slice a0 len0 cap0, .slice a1 len1 cap1, .int .i64 a2] w fun e w' => e = .returned (.bool true) ∧ Below w.heap.size w w' := by
  by_cases he : okLen len0 len1 = false ∨ 524288 < len0 ∨ 524288 < len1 ∨ a2 < 0 ∨ (len0 : Int) < a2 ∨ (len1 : Int) < a2
  · exact cut_early a0 len0 cap0 a1 len1 cap1 a2 w w0.len w1.len he
  · have hok : okLen len0 len1 = true := by cases h : okLen len0 len1 <;> simp_all
    obtain ⟨i, rfl⟩ := Int.eq_ofNat_of_zero_le (show 0 ≤ a2 by omega)
    rcases w0 with ⟨rfl, rfl, rfl, rfl⟩ | ⟨x, rfl, hl, hm, hz, hcell, hwz⟩
    · obtain rfl : i = 0 := by omega
      rcases w1 with ⟨rfl, rfl, rfl, rfl⟩ | ⟨y, rfl, kl, km, kz, kcell, kwz⟩
      · exact cut_00 w
      · exact cut_0n y len1 cap1 (z1.take len1) w (by omega) (show _ = _ by simp; omega) (byt_of _ kwz) (head_of (by omega) kcell)
    · rcases w1 with ⟨rfl, rfl, rfl, rfl⟩ | ⟨y, rfl, kl, km, kz, kcell, kwz⟩
      · obtain rfl : i = 0 := by omega
        exact cut_n0 x len0 cap0 (z0.take len0) w (by omega) (show _ = _ by simp; omega) (byt_of _ hwz) (head_of (by omega) hcell)
      · exact cut_nn x len0 cap0 y len1 cap1 i (z0.take len0) (z1.take len1) w hok (by omega) (by omega) (by omega) (by omega) (show _ = _ by simp; omega) (show _ = _ by simp; omega) (byt_of _ hwz) (byt_of _ kwz) (head_of (by omega) hcell) (head_of (by omega) kcell)
#print axioms cut_all
end Go.Proofs.Qxb6612733a.Hex
