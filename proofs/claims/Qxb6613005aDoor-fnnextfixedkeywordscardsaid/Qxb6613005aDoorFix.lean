/-
  THE CONTRACT OF Format.FixedWord, over bytes.
-/
import Derived.Test.Qxb6613005aDoorShort
namespace Go.Proofs.Qxb6613005aDoor.Kw
open Go.RowKit

theorem not_nat (k a : Nat) (h : a < 2 ^ k) : a ^^^ (2 ^ k - 1) = 2 ^ k - 1 - a := by
  have e := congrArg BitVec.toNat (BitVec.xor_allOnes (x := BitVec.ofNat k a))
  rw [BitVec.toNat_xor, BitVec.toNat_not, BitVec.toNat_allOnes, BitVec.toNat_ofNat, Nat.mod_eq_of_lt h] at e
  exact e
/-- A byte under flip. -/
def fl (flip x : Nat) : Nat := if flip = 0 then x else 255 - x
theorem fl_lt (flip x : Nat) (h : x < 256) : fl flip x < 256 := by unfold fl; split <;> omega
theorem fl_byte (flip F x : Nat) (hF : Flips flip F) (h : x < 256) : bits BinOp.xor IntKind.u8 (x : Int) (flip : Int) = ((fl flip x : Nat) : Int) := by
  rcases hF with ⟨rfl, rfl⟩ | ⟨rfl, rfl⟩
  · rw [u8_xor_nat x 0 h (by omega), Nat.xor_zero]; rfl
  · rw [u8_xor_nat x 255 h (by omega)]
    have := not_nat 8 x h
    rw [show (2 : Nat) ^ 8 - 1 = 255 from rfl] at this
    rw [this]; rfl
/-- The word under flip. -/
def flw (flip : Nat) (xs : List Nat) : Nat := cat (fl flip (xs.getD 0 0)) (fl flip (xs.getD 1 0)) (fl flip (xs.getD 2 0)) (fl flip (xs.getD 3 0)) (fl flip (xs.getD 4 0)) (fl flip (xs.getD 5 0)) (fl flip (xs.getD 6 0)) (fl flip (xs.getD 7 0))
theorem flw_eq (flip F : Nat) (xs : List Nat) (hF : Flips flip F) (hb : Byt xs) : bits BinOp.xor IntKind.u64 ((word xs : Nat) : Int) (F : Int) = ((flw flip xs : Nat) : Int) := by
  have hw := word_lt hb
  rcases hF with ⟨rfl, rfl⟩ | ⟨rfl, rfl⟩
  · rw [u64_xor_nat _ 0 hw (by omega), Nat.xor_zero]; rfl
  · rw [u64_xor_nat _ 18446744073709551615 hw (by omega)]
    have := not_nat 64 (word xs) hw
    rw [show (2 : Nat) ^ 64 - 1 = 18446744073709551615 from rfl] at this
    rw [this]
    have a0 := hb 0; have a1 := hb 1; have a2 := hb 2; have a3 := hb 3; have a4 := hb 4; have a5 := hb 5; have a6 := hb 6; have a7 := hb 7
    unfold flw fl word cat
    rw [if_neg (by omega : ¬ 255 = 0), if_neg (by omega : ¬ 255 = 0), if_neg (by omega : ¬ 255 = 0), if_neg (by omega : ¬ 255 = 0), if_neg (by omega : ¬ 255 = 0), if_neg (by omega : ¬ 255 = 0), if_neg (by omega : ¬ 255 = 0), if_neg (by omega : ¬ 255 = 0)]
    omega
theorem Byt.drop {xs : List Nat} (h : Byt xs) (k : Nat) : Byt (xs.drop k) := fun i => by
  have := h (k + i)
  simpa [List.getD] using this

set_option maxRecDepth 100000 in
set_option maxHeartbeats 1000000 in
theorem fixed25 (bk flip size off len F g P m c d : Nat) (mv : Value) (ks : List Nat) (w : World) (hK : KeysAt w bk flip size off len mv) (hF : Flips flip F) (hg : g < w.heap.size)
    (hks : Hid (ks.length = len)) (hb : Hid (Byt ks)) (hc : Hid (∀ i, i < len → w.cell? ⟨g, P + off + i, none⟩ = some (.int .u8 (ks.getD i 0 : Nat)))) (hm : off + len ≤ m) (hmc : m ≤ c) (hm2 : c ≤ 1048576) (hd : d ≤ len) :
    Calls Tryd.prog 25 #[.pointer (some ⟨bk, 0, none⟩), .slice (some ⟨g, P, none⟩) m c, .int .i64 d] w fun e w' => e = .returned (.int .u64 (flw flip (ks.drop d) : Nat)) ∧ Below w.heap.size w w' := by
  have h36 := bytes36 bk flip size off len mv w hK
  have hS0 : Below w.heap.size w w.drew ∧ w.drew.cell? ⟨bk, 6, none⟩ = some (.int .i64 off) ∧ w.drew.cell? ⟨bk, 7, none⟩ = some (.int .i64 len) := ⟨⟨rfl, rfl, rfl, Nat.le_refl _, fun _ _ => rfl⟩, hK.c6, hK.c7⟩
  have h35 : Hid (∀ w', (Below w.heap.size w w' ∧ w'.cell? ⟨bk, 6, none⟩ = some (.int .i64 off) ∧ w'.cell? ⟨bk, 7, none⟩ = some (.int .i64 len)) → Calls Tryd.prog 35 #[.pointer (some ⟨bk, 0, none⟩)] w' fun e w'' => e = .returned (.int .u64 F) ∧ w'' = w') := fun w' hw' => flips35 bk flip size off len F mv w' (hK.below hw'.1 hK.lt) hF
  have h38 : Hid (∀ w' p n c', (Below w.heap.size w w' ∧ w'.cell? ⟨bk, 6, none⟩ = some (.int .i64 off) ∧ w'.cell? ⟨bk, 7, none⟩ = some (.int .i64 len)) → ((0 < len - d → p = some ⟨g, P + (off + d), none⟩) ∧ n = len - d) → Calls Tryd.prog 38 #[.slice p n c'] w' fun e w'' => e = .returned (.int .u64 (word (ks.drop d) : Nat)) ∧ (Below w.heap.size w w'' ∧ w''.cell? ⟨bk, 6, none⟩ = some (.int .i64 off) ∧ w''.cell? ⟨bk, 7, none⟩ = some (.int .i64 len))) := fun w' p n c' hw' ⟨hp, hn⟩ => by
    subst hn
    refine (pre38 p (len - d) c' (ks.drop d) w' (by omega) (by show _ = _; rw [List.length_drop, unhide hks]) ?_ ((unhide hb).drop d)).mono ?_
    · intro h0
      refine ⟨g, P + (off + d), hp h0, Nat.lt_of_lt_of_le hg hw'.1.size, fun i hi => ?_⟩
      rw [hw'.1.cell (p := ⟨g, P + (off + d) + i, none⟩) hg, show P + (off + d) + i = P + off + (d + i) by omega, unhide hc (d + i) (by omega)]
      simp [List.getD]
    · rintro e w'' ⟨rfl, hb2⟩
      have hb3 := hw'.1.trans (hb2.mono hw'.1.size)
      have hk3 := hK.below hb3 hK.lt
      exact ⟨rfl, hb3, hk3.c6, hk3.c7⟩
  have hfl : Hid (bits BinOp.xor IntKind.u64 ((word (ks.drop d) : Nat) : Int) (F : Int) = ((flw flip (ks.drop d) : Nat) : Int)) := flw_eq flip F (ks.drop d) hF ((unhide hb).drop d)
  have c11 := hK.c11
  have c6 := hK.c6
  have c7 := hK.c7
  obtain ⟨X, hX⟩ : ∃ X, X = word (ks.drop d) := ⟨_, rfl⟩
  obtain ⟨Y, hY⟩ : ∃ Y, Y = flw flip (ks.drop d) := ⟨_, rfl⟩
  rw [← hX] at h38 hfl
  rw [← hY] at hfl ⊢
  clear hK hF hks hb hc hX hY
  obtain ⟨A, hA⟩ : ∃ A, A = off + d := ⟨_, rfl⟩
  obtain ⟨E, hE⟩ : ∃ E, E = off + len := ⟨_, rfl⟩
  have e1 : (off : Int) + (d : Int) = (A : Int) := by omega
  have e2 : (off : Int) + (len : Int) = (E : Int) := by omega
  have e3 : (0 : Int) ≤ (A : Int) := by omega
  have e4 : (A : Int) ≤ (E : Int) := by omega
  have e5 : (E : Int) ≤ (c : Int) := by omega
  have e6 : E - A = len - d := by omega
  have e7 : P + (off + d) = P + A := by omega
  rw [e7] at h38
  have e8 : IntKind.i64.wrap (A : Int) = (A : Int) := by rw [IntKind.wrap_i64]; omega
  have e9 : IntKind.i64.wrap (E : Int) = (E : Int) := by rw [IntKind.wrap_i64]; omega
  clear hA hE e7 hd
  by_cases hcA : c = A
  · have hE : E = A := by omega
    subst hcA hE
    go_enter Tryd.func25, Tryd.ntmps25
    go_wp2_with (go_at_call 36; refine h36.mono ?_; rintro e w1 ⟨rfl, rfl⟩)
    clear h36 c11
    go_region_held3 (fun w' => Below w1.heap.size w1 w' ∧ w'.cell? ⟨bk, 6, none⟩ = some (.int .i64 off) ∧ w'.cell? ⟨bk, 7, none⟩ = some (.int .i64 len)) (first | exact hS0 | assumption) (first | (go_at_call 35; refine (unhide h35 _ (by assumption)).mono ?_; rintro e w3 ⟨rfl, rfl⟩) | (go_at_call 38; refine (unhide h38 _ _ _ _ (by assumption) ⟨fun h0 => by omega, by first | rfl | omega⟩).mono ?_; rintro e w2 ⟨rfl, s2⟩))
    go_wp2
    go_ret
    rename_i hh
    exact ⟨ret_int (unhide hfl), hh.1⟩
  · go_enter Tryd.func25, Tryd.ntmps25
    go_wp2_with (go_at_call 36; refine h36.mono ?_; rintro e w1 ⟨rfl, rfl⟩)
    clear h36 c11
    go_region_held3 (fun w' => Below w1.heap.size w1 w' ∧ w'.cell? ⟨bk, 6, none⟩ = some (.int .i64 off) ∧ w'.cell? ⟨bk, 7, none⟩ = some (.int .i64 len)) (first | exact hS0 | assumption) (first | (go_at_call 35; refine (unhide h35 _ (by assumption)).mono ?_; rintro e w3 ⟨rfl, rfl⟩) | (go_at_call 38; refine (unhide h38 _ _ _ _ (by assumption) ⟨fun h0 => rfl, rfl⟩).mono ?_; rintro e w2 ⟨rfl, s2⟩))
    go_wp2
    go_ret
    rename_i hh
    exact ⟨ret_int (unhide hfl), hh.1⟩
end Go.Proofs.Qxb6613005aDoor.Kw
