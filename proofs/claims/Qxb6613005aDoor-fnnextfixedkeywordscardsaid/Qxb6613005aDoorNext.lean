/-
  THE CONTRACT OF Keys.Next, over fixed-size records.
-/
import Derived.Test.Qxb6613005aDoorFix
import Derived.Laws.Small
namespace Go.Proofs.Qxb6613005aDoor.Kw
open Go.RowKit

set_option maxRecDepth 100000 in
set_option maxHeartbeats 1000000 in
theorem next11 (bk flip size off len F g n d v P L M : Nat) (ks : List Nat) (w : World) (hK : KeysAt w bk flip size off len (.slice (some ⟨g, 0, none⟩) n n)) (hF : Flips flip F) (hg : g < w.heap.size)
    (hks : Hid (ks.length = len)) (hb : Hid (Byt ks)) (hc : Hid (∀ i, i < len → w.cell? ⟨g, P + off + i, none⟩ = some (.int .u8 (ks.getD i 0 : Nat)))) (hm : off + len ≤ size) (hP : (v : Int) * (size : Int) = (P : Int)) (hPn : P + size ≤ n) (hl : 1 ≤ len) (hm2 : n ≤ 1048576) (hd : d ≤ len)
    (hL : L = len - d) (hM : M = min L 8) :
    Calls Tryd.prog 11 #[.pointer (some ⟨bk, 0, none⟩), .int .i64 v, .int .i64 d] w fun e w' => e = .returned (.tuple #[.int .u64 (flw flip (ks.drop d) : Nat), .int .i64 M]) ∧ Below w.heap.size w w' := by
  have h23 := lines23 bk flip size off len _ w hK
  have hS0 : Below w.heap.size w w.drew ∧ w.drew.cell? ⟨bk, 4, none⟩ = some (.int .i64 size) ∧ w.drew.cell? ⟨bk, 13, none⟩ = some (.slice (some ⟨g, 0, none⟩) n n) := ⟨⟨rfl, rfl, rfl, Nat.le_refl _, fun _ _ => rfl⟩, hK.c4, hK.c13⟩
  have h26 : Hid (∀ w', (Below w.heap.size w w' ∧ w'.cell? ⟨bk, 4, none⟩ = some (.int .i64 size) ∧ w'.cell? ⟨bk, 13, none⟩ = some (.slice (some ⟨g, 0, none⟩) n n)) → Calls Tryd.prog 26 #[.pointer (some ⟨bk, 0, none⟩)] w' fun e w'' => e = .returned (.int .i64 len) ∧ w'' = w') := fun w' hw' => keylen26 bk flip size off len _ w' (hK.below hw'.1 hK.lt)
  have h25 : Hid (∀ w', (Below w.heap.size w w' ∧ w'.cell? ⟨bk, 4, none⟩ = some (.int .i64 size) ∧ w'.cell? ⟨bk, 13, none⟩ = some (.slice (some ⟨g, 0, none⟩) n n)) → Calls Tryd.prog 25 #[.pointer (some ⟨bk, 0, none⟩), .slice (some ⟨g, P, none⟩) (n - P) (n - P), .int .i64 d] w' fun e w'' => e = .returned (.int .u64 (flw flip (ks.drop d) : Nat)) ∧ (Below w.heap.size w w'' ∧ w''.cell? ⟨bk, 4, none⟩ = some (.int .i64 size) ∧ w''.cell? ⟨bk, 13, none⟩ = some (.slice (some ⟨g, 0, none⟩) n n))) := fun w' hw' => by
    refine (fixed25 bk flip size off len F g P (n - P) (n - P) d _ ks w' (hK.below hw'.1 hK.lt) hF (Nat.lt_of_lt_of_le hg hw'.1.size) hks hb (fun i hi => ?_) (by omega) (Nat.le_refl _) (by omega) hd).mono ?_
    · rw [hw'.1.cell (p := ⟨g, P + off + i, none⟩) hg]
      exact unhide hc i hi
    · rintro e w'' ⟨rfl, hb2⟩
      have hb3 := hw'.1.trans (hb2.mono hw'.1.size)
      have hk3 := hK.below hb3 hK.lt
      exact ⟨rfl, hb3, hk3.c4, hk3.c13⟩
  have c4 := hK.c4
  have c13 := hK.c13
  obtain ⟨Y, hY⟩ : ∃ Y, Y = flw flip (ks.drop d) := ⟨_, rfl⟩
  rw [← hY] at h25 ⊢
  have e0 : (0 : Int) ≤ (P : Int) := by omega
  have e1 : (P : Int) ≤ (n : Int) := by omega
  have e2 : ¬ n = P := by omega
  have e3 : IntKind.i64.wrap (P : Int) = (P : Int) := by rw [IntKind.wrap_i64]; omega
  have e4 : (len : Int) - (d : Int) = (L : Int) := by omega
  have e5 : IntKind.i64.wrap (L : Int) = (L : Int) := by rw [IntKind.wrap_i64]; omega
  by_cases h8 : (8 : Int) < (L : Int)
  · obtain rfl : M = 8 := by omega
    clear hK hF hks hb hc hY hM hL hPn hd hl hm hm2
    go_enter Tryd.func11, Tryd.ntmps11
    go_wp2_with (go_at_call 23; refine h23.mono ?_; rintro e w1 ⟨rfl, rfl⟩)
    clear h23
    go_region_held3 (fun w' => Below w1.heap.size w1 w' ∧ w'.cell? ⟨bk, 4, none⟩ = some (.int .i64 size) ∧ w'.cell? ⟨bk, 13, none⟩ = some (.slice (some ⟨g, 0, none⟩) n n)) (first | exact hS0 | assumption) (first | (go_at_call 26; refine (unhide h26 _ (by assumption)).mono ?_; rintro e w3 ⟨rfl, rfl⟩) | (go_at_call 25; refine (unhide h25 _ (by assumption)).mono ?_; rintro e w2 ⟨rfl, s2⟩))
    go_wp2
    go_ret2
    rename_i hh
    exact ⟨rfl, hh.1⟩
  · obtain rfl : M = L := by omega
    clear hK hF hks hb hc hY hM hL hPn hd hl hm hm2
    go_enter Tryd.func11, Tryd.ntmps11
    go_wp2_with (go_at_call 23; refine h23.mono ?_; rintro e w1 ⟨rfl, rfl⟩)
    clear h23
    go_region_held3 (fun w' => Below w1.heap.size w1 w' ∧ w'.cell? ⟨bk, 4, none⟩ = some (.int .i64 size) ∧ w'.cell? ⟨bk, 13, none⟩ = some (.slice (some ⟨g, 0, none⟩) n n)) (first | exact hS0 | assumption) (first | (go_at_call 26; refine (unhide h26 _ (by assumption)).mono ?_; rintro e w3 ⟨rfl, rfl⟩) | (go_at_call 25; refine (unhide h25 _ (by assumption)).mono ?_; rintro e w2 ⟨rfl, s2⟩))
    go_wp2
    go_ret2
    rename_i hh
    exact ⟨rfl, hh.1⟩
end Go.Proofs.Qxb6613005aDoor.Kw
