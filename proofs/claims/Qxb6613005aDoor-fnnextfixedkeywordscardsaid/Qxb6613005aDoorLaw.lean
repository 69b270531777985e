/-
  THE WALK OF FnNextFixedKeyWords behind its tests.
-/
import Derived.Test.Qxb6613005aDoorClone
namespace Go.Proofs.Qxb6613005aDoor.Kw
open Go.RowKit

/-- The key's bytes in memory U. -/
def keyOf (U : List Nat) (A len : Nat) : List Nat := (U.drop A).take len
theorem keyOf_getD (U : List Nat) (A len i : Nat) (hi : i < len) : (keyOf U A len).getD i 0 = U.getD (A + i) 0 := by
  simp [keyOf, List.getD, hi]
theorem keyOf_length (U : List Nat) (A len : Nat) (h : A + len ≤ U.length) : (keyOf U A len).length = len := by
  simp [keyOf]; omega
theorem keyOf_byt (U : List Nat) (A len : Nat) (h : Byt U) : Byt (keyOf U A len) := (h.drop A).take len

set_option maxRecDepth 100000 in
set_option maxHeartbeats 4000000 in
theorem law_main (b o n c flip size off len v d P A E F : Nat) (U : List Nat) (w : World) (hl : b < w.heap.size) (hlen : Hid (U.length = n)) (hU : Hid (∀ i, i < n → w.cell? ⟨b, o + i, none⟩ = some (.int .u8 (U.getD i 0 : Nat)))) (hbU : Hid (Byt U))
    (hn : n ≤ 1048576) (hc : n ≤ c) (hc2 : c ≤ 9223372036854775807) (hF : Hid (Flips flip F)) (hf : flip = 0 ∨ flip = 255) (hs1 : 1 ≤ size) (hs2 : size ≤ n) (hl1 : 1 ≤ len) (hl2 : len ≤ size) (ho : off ≤ size - len)
    (hv : v < n / size) (hd : d ≤ len) (hP : v * size = P) (hA : P + off = A) (hE : A + len = E) (hPn : P + size ≤ n) :
    Calls Tryd.prog 4 #[.slice (some ⟨b, o, none⟩) n c, .int .u8 flip, .int .i64 size, .int .i64 off, .int .i64 len, .int .i64 v, .int .i64 d] w fun e w' => e = .returned (.bool true) ∧ Below w.heap.size w w' := by
  have z := zz13 (some ⟨b, o, none⟩) n c (.int .u8 flip) (.int .i64 size) (.int .i64 off) (.int .i64 len) (.int .i64 v) (.int .i64 d) w (by omega)
  rw [decide_eq_true hn] at z
  have k9 := clone9 b o n c U w hl hlen (unhide hU) hn
  have K14 : Hid (∀ w1, Calls Tryd.prog 14 #[.int .u8 flip, .int .i64 size, .int .i64 off, .int .i64 len, .slice (some ⟨w.heap.size, 0, none⟩) n n] w1 fun e w' => e = .returned (.pointer (some ⟨w1.heap.size, 0, none⟩)) ∧ KeysAt w' w1.heap.size flip size off len (.slice (some ⟨w.heap.size, 0, none⟩) n n) ∧ Below w1.heap.size w1 w') := fun w1 => new14 flip size off len _ n n w1
  have e1 : (v : Int) * (size : Int) = (P : Int) := by rw [← hP]; simp
  have e2 : (P : Int) + (off : Int) = (A : Int) := by omega
  have e3 : (A : Int) + (len : Int) = (E : Int) := by omega
  have e4 : IntKind.i64.wrap (P : Int) = (P : Int) := by rw [IntKind.wrap_i64]; omega
  have e5 : IntKind.i64.wrap (A : Int) = (A : Int) := by rw [IntKind.wrap_i64]; omega
  have e6 : IntKind.i64.wrap (E : Int) = (E : Int) := by rw [IntKind.wrap_i64]; omega
  have t1 : decide ((n : Int) > 1048576) = false := by simp; omega
  have t2 : decide ((size : Int) < 1) = false := by simp; omega
  have t3 : decide ((size : Int) > (n : Int)) = false := by simp; omega
  have t4 : decide ((off : Int) < 0) = false := by simp
  have t5 : decide ((len : Int) < 1) = false := by simp; omega
  have t6 : decide ((len : Int) > (size : Int)) = false := by simp; omega
  have t8 : decide ((v : Int) < 0) = false := by simp
  have t9 : decide ((d : Int) < 0) = false := by simp
  have t10 : decide ((d : Int) > (len : Int)) = false := by simp; omega
  have q1 : ¬ (size : Int) = 0 := by omega
  have q2 : ¬ size = 0 := by omega
  obtain ⟨Q, hQ⟩ : ∃ Q, Q = n / size := ⟨_, rfl⟩
  have hvQ : v < Q := by rw [hQ]; exact hv
  have t11 : decide ((v : Int) ≥ (Q : Int)) = false := decide_eq_false (fun h => Nat.not_le.2 hvQ (Int.ofNat_le.1 h))
  have hA0 : (0 : Int) ≤ (A : Int) := by omega
  have hAE : (A : Int) ≤ (E : Int) := by omega
  have hEc : (E : Int) ≤ (c : Int) := by omega
  have hcA : ¬ c = A := by omega
  have hEA : E - A = len := by omega
  obtain ⟨SL, hSL⟩ : ∃ SL, SL = size - len := ⟨_, rfl⟩
  have e7 : (size : Int) - (len : Int) = (SL : Int) := by omega
  have e8 : IntKind.i64.wrap (SL : Int) = (SL : Int) := by rw [IntKind.wrap_i64]; omega
  have t7 : decide ((off : Int) > (SL : Int)) = false := by simp; omega
  have ALL : Hid (n ≤ 1048576 ∧ n ≤ c ∧ 1 ≤ size ∧ size ≤ n ∧ 1 ≤ len ∧ len ≤ size ∧ off ≤ size - len ∧ d ≤ len ∧ v * size = P ∧ P + off = A ∧ A + len = E ∧ P + size ≤ n) := ⟨hn, hc, hs1, hs2, hl1, hl2, ho, hd, hP, hA, hE, hPn⟩
  have u1 : ¬ 1048576 < n := by omega
  have u2 : ¬ size < 1 := by omega
  have u3 : ¬ n < size := by omega
  have u5 : ¬ len < 1 := by omega
  have u6 : ¬ size < len := by omega
  have u7 : ¬ SL < off := by omega
  have u10 : ¬ len < d := by omega
  have u11 : ¬ Q ≤ v := Nat.not_le.2 hvQ
  have u12 : ¬ size = 0 := by omega
  have u15 : ¬ len = 0 := by omega
  have hQn : Q ≤ n := by rw [hQ]; exact Nat.div_le_self _ _
  have hQ' : (n : Int) / (size : Int) = (Q : Int) := by rw [hQ]; simp
  have hQ2 : wrap64 ((n : Int) / (size : Int)) = (Q : Int) := by
    rw [hQ']
    clear hQ' hQ hv hP
    simp only [wrap64]; omega
  clear hSL hn hc hs1 hs2 hl1 hl2 ho hd hP hA hE hPn q1 q2 hQ hQ' hv hc2 hvQ hQn
  rcases hf with hf | hf
  · subst hf
    go_enter Tryd.func4, Tryd.ntmps4
    go_wp2_with (first
      | (go_at_call 13; refine z.mono ?_; rintro e w' ⟨rfl, rfl⟩)
      | (go_at_call 9; refine k9.mono ?_; rintro e w1 ⟨rfl, r1, b1⟩)
      | (go_at_call 14; refine (unhide K14 _).mono ?_; rintro e w2 ⟨rfl, k2, b2⟩))
    clear z k9 K14 t1 t2 t3 t4 t5 t6 t7 t8 t9 t10 t11 u1 u2 u3 u5 u6 u7 u10 u11 u12 u15 hQ2 e1 e2 e3 e4 e5 e6 e7 e8
    obtain ⟨hn, hc, hs1, hs2, hl1, hl2, ho, hd, hP, hA, hE, hPn⟩ := unhide ALL
    have hlen' := unhide hlen
    have hks : Hid ((keyOf U A len).length = len) := keyOf_length U A len (by omega)
    have hbk : Hid (Byt (keyOf U A len)) := keyOf_byt U A len (unhide hbU)
    have bb : Below w.heap.size w w2 := b1.trans (b2.mono b1.size)
    have r2 := r1.below b2 r1.lt
    have hP' : (v : Int) * (size : Int) = (P : Int) := by rw [← hP]; simp
    have HN : Hid (∀ wr i, Below w2.heap.size w2 wr → i ≤ len → Calls Tryd.prog 11 #[.pointer (some ⟨w1.heap.size, 0, none⟩), .int .i64 v, .int .i64 i] wr fun e w'' => e = .returned (.tuple #[.int .u64 (flw 0 ((keyOf U A len).drop i) : Nat), .int .i64 (min (len - i) 8 : Nat)]) ∧ Below w2.heap.size w2 w'') := fun wr i hb hi => by
      refine (next11 w1.heap.size 0 size off len F w.heap.size n i v P (len - i) (min (len - i) 8) (keyOf U A len) wr (k2.below hb k2.lt) (unhide hF) (Nat.lt_of_lt_of_le r2.lt hb.size) hks hbk (fun j hj => ?_) (by omega) hP' hPn hl1 hn hi rfl rfl).mono ?_
      · rw [keyOf_getD U A len j hj, ← hA]
        exact (r2.below hb r2.lt).cell _ (by omega)
      · rintro e w'' ⟨rfl, hb2⟩
        exact ⟨rfl, hb.trans (hb2.mono hb.size)⟩
    have HI : Hid (∀ wr p i c', Below w2.heap.size w2 wr → i ≤ len → (0 < len - i → p = some ⟨b, o + A + i, none⟩) → Calls Tryd.prog 12 #[.int .u64 (flw 0 ((keyOf U A len).drop i) : Nat), .int .i64 (min (len - i) 8 : Nat), .slice p (len - i) c', .int .u8 0] wr fun e w'' => e = .returned (.bool true) ∧ w'' = wr) := fun wr p i c' hb hi hp => by
      refine is12 p (len - i) c' (min (len - i) 8) _ 0 ((keyOf U A len).drop i) wr (by omega) (by show _ = _; rw [List.length_drop, unhide hks]) (fun h0 => ?_) rfl (flw_lt 0 _ ((unhide hbk).drop i)) (flw_q 0 F _ (unhide hF) ((unhide hbk).drop i))
      have bl : b < w2.heap.size := Nat.lt_of_lt_of_le hl bb.size
      refine ⟨b, o + A + i, hp h0, Nat.lt_of_lt_of_le bl hb.size, fun j hj => ?_⟩
      rw [hb.cell (p := ⟨b, o + A + i + j, none⟩) bl, bb.cell (p := ⟨b, o + A + i + j, none⟩) hl, show o + A + i + j = o + (A + (i + j)) by omega, unhide hU _ (by omega), ← keyOf_getD U A len (i + j) (by omega)]
      simp [List.getD]
    have hlm : len ≤ 1048576 := by omega
    obtain ⟨C, hC⟩ : ∃ C, C = c - A := ⟨_, rfl⟩
    have hlC : len ≤ C := by omega
    rw [← hC]
    clear hU hbU hlen hlen' hks hbk hF r1 r2 k2 b1 b2 hP hP' hPn ALL hs1 hs2 hl1 hl2 ho hn hC hA hE hc hA0 hAE hEc hcA hEA
    go_loopw [19, 20, 21] (fun x _ _ wr => ∃ k : Nat, k ≤ len + 8 ∧ x = .int .i64 (k : Int) ∧ Below w2.heap.size w2 wr) (fun x _ _ _ => len + 9 - (intOf x).toNat)
    case atStart => exact ⟨0, Nat.zero_le _, rfl, Below.refl _ _⟩
    case round =>
      obtain ⟨k, hk, rfl, hbl⟩ := hrel
      by_cases hlt : k ≤ len
      · have hN := unhide HN _ k hbl hlt
        by_cases hCk : C = k
        · obtain rfl : k = len := by omega
          obtain rfl : C = k := by omega
          have hI : ∀ w4, Below w2.heap.size w2 w4 → _ := fun w4 h4 => unhide HI w4 (some ⟨b, o + A, none⟩) C 0 h4 hlt (fun h0 => by omega)
          generalize flw 0 ((keyOf U A C).drop C) = Y at hN hI
          generalize min (C - C) 8 = M at hN hI
          rw [Nat.sub_self] at hI
          have HI' := hide hI
          clear hI HN HI
          go_wp2_with (first
            | (go_at_call 11; with_reducible refine hN.mono ?_; rintro e w3 ⟨rfl, b3⟩)
            | (go_at_call 12; with_reducible refine (unhide HI' _ b3).mono ?_; rintro e w4 ⟨rfl, rfl⟩))
          go_roundw
          case rel => exact ⟨C + 8, by omega, by go_num, b3⟩
          case measure => simp [intOf]; omega
        · have hI : ∀ w4, Below w2.heap.size w2 w4 → _ := fun w4 h4 => unhide HI w4 (some ⟨b, o + A + k, none⟩) k (C - k) h4 hlt (fun h0 => rfl)
          have hkC : (k : Int) ≤ (C : Int) := by omega
          generalize flw 0 ((keyOf U A len).drop k) = Y at hN hI
          generalize min (len - k) 8 = M at hN hI
          have HI' := hide hI
          clear hI HN HI
          go_wp2_with (first
            | (go_at_call 11; with_reducible refine hN.mono ?_; rintro e w3 ⟨rfl, b3⟩)
            | (go_at_call 12; with_reducible refine (unhide HI' _ b3).mono ?_; rintro e w4 ⟨rfl, rfl⟩))
          go_roundw
          case rel => exact ⟨k + 8, by omega, by go_num, b3⟩
          case measure => simp [intOf]; omega
      · have hN := unhide HN _ d hbl hd
        by_cases hCd : C = d
        · obtain rfl : d = len := by omega
          obtain rfl : C = d := by omega
          have hI : ∀ w4, Below w2.heap.size w2 w4 → _ := fun w4 h4 => unhide HI w4 (some ⟨b, o + A, none⟩) C 0 h4 hd (fun h0 => by omega)
          generalize flw 0 ((keyOf U A C).drop C) = Y at hN hI
          generalize min (C - C) 8 = M at hN hI
          rw [Nat.sub_self] at hI
          have HI' := hide hI
          clear hI HN HI
          go_wp2_with (first
            | (go_at_call 11; with_reducible refine hN.mono ?_; rintro e w3 ⟨rfl, b3⟩)
            | (go_at_call 12; with_reducible refine (unhide HI' _ b3).mono ?_; rintro e w4 ⟨rfl, rfl⟩))
          go_ret
          exact ⟨rfl, bb.trans (b3.mono bb.size)⟩
        · have hI : ∀ w4, Below w2.heap.size w2 w4 → _ := fun w4 h4 => unhide HI w4 (some ⟨b, o + A + d, none⟩) d (C - d) h4 hd (fun h0 => rfl)
          have hdC : (d : Int) ≤ (C : Int) := by omega
          generalize flw 0 ((keyOf U A len).drop d) = Y at hN hI
          generalize min (len - d) 8 = M at hN hI
          have HI' := hide hI
          clear hI HN HI
          go_wp2_with (first
            | (go_at_call 11; with_reducible refine hN.mono ?_; rintro e w3 ⟨rfl, b3⟩)
            | (go_at_call 12; with_reducible refine (unhide HI' _ b3).mono ?_; rintro e w4 ⟨rfl, rfl⟩))
          go_ret
          exact ⟨rfl, bb.trans (b3.mono bb.size)⟩
  · subst hf
    go_enter Tryd.func4, Tryd.ntmps4
    go_wp2_with (first
      | (go_at_call 13; refine z.mono ?_; rintro e w' ⟨rfl, rfl⟩)
      | (go_at_call 9; refine k9.mono ?_; rintro e w1 ⟨rfl, r1, b1⟩)
      | (go_at_call 14; refine (unhide K14 _).mono ?_; rintro e w2 ⟨rfl, k2, b2⟩))
    clear z k9 K14 t1 t2 t3 t4 t5 t6 t7 t8 t9 t10 t11 u1 u2 u3 u5 u6 u7 u10 u11 u12 u15 hQ2 e1 e2 e3 e4 e5 e6 e7 e8
    obtain ⟨hn, hc, hs1, hs2, hl1, hl2, ho, hd, hP, hA, hE, hPn⟩ := unhide ALL
    have hlen' := unhide hlen
    have hks : Hid ((keyOf U A len).length = len) := keyOf_length U A len (by omega)
    have hbk : Hid (Byt (keyOf U A len)) := keyOf_byt U A len (unhide hbU)
    have bb : Below w.heap.size w w2 := b1.trans (b2.mono b1.size)
    have r2 := r1.below b2 r1.lt
    have hP' : (v : Int) * (size : Int) = (P : Int) := by rw [← hP]; simp
    have HN : Hid (∀ wr i, Below w2.heap.size w2 wr → i ≤ len → Calls Tryd.prog 11 #[.pointer (some ⟨w1.heap.size, 0, none⟩), .int .i64 v, .int .i64 i] wr fun e w'' => e = .returned (.tuple #[.int .u64 (flw 255 ((keyOf U A len).drop i) : Nat), .int .i64 (min (len - i) 8 : Nat)]) ∧ Below w2.heap.size w2 w'') := fun wr i hb hi => by
      refine (next11 w1.heap.size 255 size off len F w.heap.size n i v P (len - i) (min (len - i) 8) (keyOf U A len) wr (k2.below hb k2.lt) (unhide hF) (Nat.lt_of_lt_of_le r2.lt hb.size) hks hbk (fun j hj => ?_) (by omega) hP' hPn hl1 hn hi rfl rfl).mono ?_
      · rw [keyOf_getD U A len j hj, ← hA]
        exact (r2.below hb r2.lt).cell _ (by omega)
      · rintro e w'' ⟨rfl, hb2⟩
        exact ⟨rfl, hb.trans (hb2.mono hb.size)⟩
    have HI : Hid (∀ wr p i c', Below w2.heap.size w2 wr → i ≤ len → (0 < len - i → p = some ⟨b, o + A + i, none⟩) → Calls Tryd.prog 12 #[.int .u64 (flw 255 ((keyOf U A len).drop i) : Nat), .int .i64 (min (len - i) 8 : Nat), .slice p (len - i) c', .int .u8 255] wr fun e w'' => e = .returned (.bool true) ∧ w'' = wr) := fun wr p i c' hb hi hp => by
      refine is12 p (len - i) c' (min (len - i) 8) _ 255 ((keyOf U A len).drop i) wr (by omega) (by show _ = _; rw [List.length_drop, unhide hks]) (fun h0 => ?_) rfl (flw_lt 255 _ ((unhide hbk).drop i)) (flw_q 255 F _ (unhide hF) ((unhide hbk).drop i))
      have bl : b < w2.heap.size := Nat.lt_of_lt_of_le hl bb.size
      refine ⟨b, o + A + i, hp h0, Nat.lt_of_lt_of_le bl hb.size, fun j hj => ?_⟩
      rw [hb.cell (p := ⟨b, o + A + i + j, none⟩) bl, bb.cell (p := ⟨b, o + A + i + j, none⟩) hl, show o + A + i + j = o + (A + (i + j)) by omega, unhide hU _ (by omega), ← keyOf_getD U A len (i + j) (by omega)]
      simp [List.getD]
    have hlm : len ≤ 1048576 := by omega
    obtain ⟨C, hC⟩ : ∃ C, C = c - A := ⟨_, rfl⟩
    have hlC : len ≤ C := by omega
    rw [← hC]
    clear hU hbU hlen hlen' hks hbk hF r1 r2 k2 b1 b2 hP hP' hPn ALL hs1 hs2 hl1 hl2 ho hn hC hA hE hc hA0 hAE hEc hcA hEA
    go_loopw [19, 20, 21] (fun x _ _ wr => ∃ k : Nat, k ≤ len + 8 ∧ x = .int .i64 (k : Int) ∧ Below w2.heap.size w2 wr) (fun x _ _ _ => len + 9 - (intOf x).toNat)
    case atStart => exact ⟨0, Nat.zero_le _, rfl, Below.refl _ _⟩
    case round =>
      obtain ⟨k, hk, rfl, hbl⟩ := hrel
      by_cases hlt : k ≤ len
      · have hN := unhide HN _ k hbl hlt
        by_cases hCk : C = k
        · obtain rfl : k = len := by omega
          obtain rfl : C = k := by omega
          have hI : ∀ w4, Below w2.heap.size w2 w4 → _ := fun w4 h4 => unhide HI w4 (some ⟨b, o + A, none⟩) C 0 h4 hlt (fun h0 => by omega)
          generalize flw 255 ((keyOf U A C).drop C) = Y at hN hI
          generalize min (C - C) 8 = M at hN hI
          rw [Nat.sub_self] at hI
          have HI' := hide hI
          clear hI HN HI
          go_wp2_with (first
            | (go_at_call 11; with_reducible refine hN.mono ?_; rintro e w3 ⟨rfl, b3⟩)
            | (go_at_call 12; with_reducible refine (unhide HI' _ b3).mono ?_; rintro e w4 ⟨rfl, rfl⟩))
          go_roundw
          case rel => exact ⟨C + 8, by omega, by go_num, b3⟩
          case measure => simp [intOf]; omega
        · have hI : ∀ w4, Below w2.heap.size w2 w4 → _ := fun w4 h4 => unhide HI w4 (some ⟨b, o + A + k, none⟩) k (C - k) h4 hlt (fun h0 => rfl)
          have hkC : (k : Int) ≤ (C : Int) := by omega
          generalize flw 255 ((keyOf U A len).drop k) = Y at hN hI
          generalize min (len - k) 8 = M at hN hI
          have HI' := hide hI
          clear hI HN HI
          go_wp2_with (first
            | (go_at_call 11; with_reducible refine hN.mono ?_; rintro e w3 ⟨rfl, b3⟩)
            | (go_at_call 12; with_reducible refine (unhide HI' _ b3).mono ?_; rintro e w4 ⟨rfl, rfl⟩))
          go_roundw
          case rel => exact ⟨k + 8, by omega, by go_num, b3⟩
          case measure => simp [intOf]; omega
      · have hN := unhide HN _ d hbl hd
        by_cases hCd : C = d
        · obtain rfl : d = len := by omega
          obtain rfl : C = d := by omega
          have hI : ∀ w4, Below w2.heap.size w2 w4 → _ := fun w4 h4 => unhide HI w4 (some ⟨b, o + A, none⟩) C 0 h4 hd (fun h0 => by omega)
          generalize flw 255 ((keyOf U A C).drop C) = Y at hN hI
          generalize min (C - C) 8 = M at hN hI
          rw [Nat.sub_self] at hI
          have HI' := hide hI
          clear hI HN HI
          go_wp2_with (first
            | (go_at_call 11; with_reducible refine hN.mono ?_; rintro e w3 ⟨rfl, b3⟩)
            | (go_at_call 12; with_reducible refine (unhide HI' _ b3).mono ?_; rintro e w4 ⟨rfl, rfl⟩))
          go_ret
          exact ⟨rfl, bb.trans (b3.mono bb.size)⟩
        · have hI : ∀ w4, Below w2.heap.size w2 w4 → _ := fun w4 h4 => unhide HI w4 (some ⟨b, o + A + d, none⟩) d (C - d) h4 hd (fun h0 => rfl)
          have hdC : (d : Int) ≤ (C : Int) := by omega
          generalize flw 255 ((keyOf U A len).drop d) = Y at hN hI
          generalize min (len - d) 8 = M at hN hI
          have HI' := hide hI
          clear hI HN HI
          go_wp2_with (first
            | (go_at_call 11; with_reducible refine hN.mono ?_; rintro e w3 ⟨rfl, b3⟩)
            | (go_at_call 12; with_reducible refine (unhide HI' _ b3).mono ?_; rintro e w4 ⟨rfl, rfl⟩))
          go_ret
          exact ⟨rfl, bb.trans (b3.mono bb.size)⟩
end Go.Proofs.Qxb6613005aDoor.Kw
