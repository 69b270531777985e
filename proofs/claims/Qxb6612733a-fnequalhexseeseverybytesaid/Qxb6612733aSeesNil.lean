/-
  THE WALK OF 'FnEqualHexSeesEveryByte' AT NIL, AND THE WALK WHOLE.
-/
import Derived.Test.Qxb6612733aSees
namespace Go.Proofs.Qxb6612733a.Hex
open Go.RowKit

set_option maxHeartbeats 2000000 in
theorem sees_nil (k x : Int) (w : World) (hxb : 0 ≤ x ∧ x ≤ 255) :
    Calls Try.prog 6 #[.slice none 0 0, .int .i64 k, .int .u8 x] w fun e w' => e = .returned (.bool true) ∧ Below w.heap.size w w' := by
  have z := zz17 none 0 0 k x w (by unfold maxLen; omega)
  rw [show okLen 0 0 = true from rfl] at z
  have ne := neq30
  have kc := clone_nil w
  have k0 := hexq none none 0 0 0 0 [] [] true w (eqB_self []) rfl rfl nilByt nilByt (nilIn _ _) (nilIn _ _)
  rcases (show k < 0 ∨ 0 ≤ k from by omega) with hk | hk
  all_goals
    go_enter Try.func6, Try.ntmps6
    go_wp2_with (first
      | (go_at_call 17; refine z.mono ?_; rintro e w' ⟨rfl, rfl⟩)
      | (go_at_call 18; refine kc.mono ?_; rintro e w' ⟨rfl, rfl⟩)
      | (with_reducible show Calls _ 16 #[Value.slice none 0 0, Value.slice none 0 0] _ _; refine k0.mono ?_; rintro e w' ⟨rfl, rfl⟩)
      | (at_make; refine wpList_make_row rfl (.tmp 48) _ rfl 1 _ _ _ _ rfl rfl rfl rfl (by omega) ?_; intro w4 r4 b5 hs; clear hs)
      | (with_reducible show wpList _ _ _ (Oper.mk (some 52) _ _ _ _ _ :: _) _ _; refine wpList_copy_row rfl (.tmp 50) _ rfl w.heap.size 1 _ _ 0 _ rfl rfl _ [] r4 (by simp) rfl (by omega) (nilIn _ _) ?_; intro w5 r5 hk b6 hs; clear hk hs; simp only [snoc0 [] 0] at r5; have c5 := r5.atEnd 0 rfl; have f5 := r5.free 0; have r6 := r5.setEnd 0 rfl x; have bel := (b5.trans b6).setCell (p := ⟨w.heap.size, 0, none⟩) (Nat.le_refl _) (.int .u8 x); clear r4 r5 b5 b6 z ne kc k0)
      | (with_reducible show Calls _ 16 #[Value.slice none 0 0, Value.slice (some ⟨w.heap.size, 0, none⟩) 1 1] _ _; refine (hexq none (some ⟨w.heap.size, 0, none⟩) 0 0 1 1 [] ([] ++ [x]) false _ (eqB_longer [] x) rfl rfl nilByt (nilByt.snoc x hxb) (nilIn _ _) (r6.all 1 rfl)).mono ?_; rintro e w' ⟨rfl, rfl⟩)
      | (with_reducible show Calls _ 16 #[Value.slice (some ⟨w.heap.size, 0, none⟩) 1 1, Value.slice none 0 0] _ _; refine (hexq (some ⟨w.heap.size, 0, none⟩) none 1 1 0 0 ([] ++ [x]) [] false _ (eqB_longer' [] x) rfl rfl (nilByt.snoc x hxb) nilByt (r6.all 1 rfl) (nilIn _ _)).mono ?_; rintro e w' ⟨rfl, rfl⟩))
    go_ret
    exact ⟨rfl, bel⟩

/-- THE WALK, WHOLE. -/
theorem sees_all (a0 : Option Addr) (len0 cap0 : Nat) (z0 : List Int) (k x : Int) (w : World) (w0 : IsRow .u8 w a0 len0 cap0 z0) (hx : (Lit.int .u8 x).wf = true) :
    Calls Try.prog 6 #[.slice a0 len0 cap0, .int .i64 k, .int .u8 x] w fun e w' => e = .returned (.bool true) ∧ Below w.heap.size w w' := by
  by_cases he : 524288 < len0
  · exact sees_early a0 len0 cap0 k x w w0.len he
  · rcases w0 with ⟨rfl, rfl, rfl, rfl⟩ | ⟨y, rfl, hl, hm, hz, hcell, hwz⟩
    · exact sees_nil k x w (bounds_u8 hx)
    · exact sees_some y len0 cap0 k x (z0.take len0) w (by omega) (show _ = _ by simp; omega) (byt_of _ hwz) (bounds_u8 hx) (head_of (by omega) hcell)
#print axioms sees_all
end Go.Proofs.Qxb6612733a.Hex
