/-
  THE WALK OF 'FnIndexAddLayout'.
-/
import Derived.Test.Qxb6612798aAll
namespace Go.Proofs.Qxb6612798a.Ix
open Go.RowKit

set_option maxHeartbeats 1000000 in
theorem law_early (a0 : Option Addr) (n c : Nat) (w : World) (hn : n ≤ maxLen) (h : 4096 < n) :
    Calls Try.prog 4 #[.slice a0 n c] w fun e w' => e = .returned (.bool true) ∧ Below w.heap.size w w' := by
  have z := zz10 a0 n c w hn
  unfold maxLen at hn
  cases hok : okLen n
  all_goals
    rw [hok] at z
    go_enter Try.func4, Try.ntmps4
    go_wp2_with (go_at_call 10; refine z.mono ?_; rintro e w' ⟨rfl, rfl⟩)
    go_ret
    exact ⟨rfl, Below.refl _ _⟩

/-- Block g holds the marks V. -/
def VRow (w : World) (g : Nat) (V : List Bool) : Prop := w.heap[g]? = some (.cells (V.map Value.bool).toArray 4 (0, 0))
theorem VRow.out {w : World} {g : Nat} {V : List Bool} (h : VRow w g V) : w.heap[g]? = some (.cells (V.map Value.bool).toArray 4 (0, 0)) := h
theorem VRow.cell {w : World} {g : Nat} {V : List Bool} (h : VRow w g V) (i : Nat) (hi : i < V.length) : w.cell? ⟨g, i, none⟩ = some (.bool (V.getD i false)) := by
  simp [World.cell?, h.out, hi, List.getD]
theorem VRow.free {w : World} {g : Nat} {V : List Bool} (h : VRow w g V) (i : Nat) : w.frozen? ⟨g, i, none⟩ = false := by simp [World.frozen?, h.out]
theorem VRow.set {w : World} {g : Nat} {V : List Bool} (h : VRow w g V) (j : Nat) (b : Bool) : VRow (w.setCell ⟨g, j, none⟩ (.bool b)) g (V.set j b) := by
  show _ = _
  simp [World.setCell, Array.getElem?_modify, h.out, List.map_set]

theorem info4 : (Try.prog.info? 4).map (fun i => (i.zero, i.size, i.bytes)) = some (some (.bool false), 1, 1) := by kernel_rfl
theorem make38 (p : Nat) (hp : p ≤ 8192) : ∃ Z : Array Value, Hid (Z = ((List.replicate p false).map Value.bool).toArray) ∧
    ∀ w, (Instr.makeSlice 38 (.int .i64 p) (.int .i64 p)).run Try.prog w = .ok (.slice (some ⟨w.heap.size, 0, none⟩) p p) (w.alloc (.cells Z 4)) := by
  obtain ⟨i, hi, hz0, hz1, hz2⟩ := info_parts info4
  refine ⟨_, rfl, fun w => ?_⟩
  rw [run_make (P := Try.prog) w 38 4 i (.bool false) Try.underlying38 hi hz0 .i64 .i64 p p (by omega) (by omega) (by rw [hz2]; omega) (by omega), hz1]
  simp only [Int.toNat_natCast, Nat.mul_one]
  congr 3
  apply Array.ext
  · simp [size_madeCells]
  · intro i h1 h2
    simp [madeCells, Value.cells, Nat.mod_one]

theorem new_index (w : World) : IxAt (w.alloc (.cells #[.slice none 0 0, .slice none 0 0, .int .i64 0] 30)) w.heap.size none none 0 0 := by
  show (w.heap.push _)[w.heap.size]? = _
  simp

set_option maxHeartbeats 1000000 in
theorem law_zero (a0 : Option Addr) (c : Nat) (w : World) :
    Calls Try.prog 4 #[.slice a0 0 c] w fun e w' => e = .returned (.bool true) ∧ Below w.heap.size w w' := by
  have z := zz10 a0 0 c w (by unfold maxLen; omega)
  rw [show okLen 0 = true from rfl] at z
  have ha := addAll8 w.heap.size w.heap.size 0 c a0 [] (w.alloc (.cells #[.slice none 0 0, .slice none 0 0, .int .i64 0] 30)) (.inl ⟨rfl, new_index w⟩) (by simp) (Nat.le_refl _) (fun h => absurd h (Nat.lt_irrefl 0)) (by omega) (by intro m; simp [hashOf])
  go_enter Try.func4, Try.ntmps4
  go_wp2_with (first
    | (go_at_call 10; refine z.mono ?_; rintro e w' ⟨rfl, rfl⟩)
    | (go_at_call 8; go_must (refine ha.mono ?_); rintro e w1 ⟨rfl, h1, b1⟩; rcases h1 with ⟨_, hx⟩ | ⟨p, gs, gt, S, T, hsz, ht⟩; rotate_left; exact absurd hsz.pos (Nat.lt_irrefl 0); have c0 := hx.c0; have c1 := hx.c1; have c2 : w1.cell? ⟨w.heap.size, 2, none⟩ = some (.int .i64 0) := hx.c2)
    | go_in)
  go_ret
  exact ⟨rfl, ((Below.refl _ _).alloc (Nat.le_refl _) _).trans b1⟩

set_option maxHeartbeats 400000 in
theorem slots11 (bx p n : Nat) (sp tp : Option Addr) (w : World) (h : IxAt w bx sp tp p n) : Calls Try.prog 11 #[.pointer (some ⟨bx, 0, none⟩)] w fun e w' => e = .returned (.slice sp p p) ∧ w = w' := by
  have c0 := h.c0
  go_enter Try.func11, Try.ntmps11
  go_wp2
  go_ret
  exact ⟨rfl, rfl⟩
set_option maxHeartbeats 400000 in
theorem tags12 (bx p n : Nat) (sp tp : Option Addr) (w : World) (h : IxAt w bx sp tp p n) : Calls Try.prog 12 #[.pointer (some ⟨bx, 0, none⟩)] w fun e w' => e = .returned (.slice tp p p) ∧ w = w' := by
  have c1 := h.c1
  go_enter Try.func12, Try.ntmps12
  go_wp2
  go_ret
  exact ⟨rfl, rfl⟩
set_option maxHeartbeats 400000 in
theorem count13 (bx p n : Nat) (sp tp : Option Addr) (w : World) (h : IxAt w bx sp tp p n) : Calls Try.prog 13 #[.pointer (some ⟨bx, 0, none⟩)] w fun e w' => e = .returned (.int .i64 n) ∧ w = w' := by
  have c2 := h.c2
  go_enter Try.func13, Try.ntmps13
  go_wp2
  go_ret
  exact ⟨rfl, rfl⟩

/-- Behind i slots: f of them were free; the marks V say which numbers have been met; nothing else has turned since w2. -/
structure Seen (w2 wr : World) (gv k i f : Nat) (S : List Nat) (V : List Bool) : Prop where
  row : VRow wr gv V
  len : V.length = k + 1
  met : ∀ m, m ≠ 0 → m ≤ k → (V.getD m false = true ↔ Moved S i m)
  cnt : f + nz (S.take i) = i
  but : But (fun j => j = gv) w2 wr

theorem But.refl (M : Nat → Prop) (w : World) : But M w w := ⟨rfl, rfl, rfl, rfl, fun _ _ => rfl⟩
theorem But.setCell {w2 wr : World} {gv : Nat} (h : But (fun j => j = gv) w2 wr) (i : Nat) (v : Value) : But (fun j => j = gv) w2 (wr.setCell ⟨gv, i, none⟩ v) :=
  ⟨h.os, h.tape, h.output, by simp [World.setCell, ← h.size], fun k hk => by rw [Below.heap_setCell _ _ _ _ hk]; exact h.block k hk⟩
theorem But.cell {M : Nat → Prop} {w w' : World} (h : But M w w') (a : Addr) (ha : ¬ M a.block) : w'.cell? a = w.cell? a := World.cell?_of_block (h.block a.block ha)

theorem getB_same (V : List Bool) (j : Nat) (hj : j < V.length) : (V.set j true).getD j false = true := by simp [List.getD, hj]
theorem getB_other (V : List Bool) (j m : Nat) (h : m ≠ j) : (V.set j true).getD m false = V.getD m false := by simp [List.getD, Ne.symm h]

theorem Seen.start {w1 : World} {Z : Array Value} {n : Nat} {S : List Nat} (hZ : Hid (Z = ((List.replicate (n + 1) false).map Value.bool).toArray)) :
    Seen (w1.alloc (.cells Z 4)) (w1.alloc (.cells Z 4)) w1.heap.size n 0 0 S (List.replicate (n + 1) false) := by
  refine ⟨?_, by simp, ?_, by simp [nz], But.refl _ _⟩
  · show (w1.heap.push _)[w1.heap.size]? = _
    rw [hZ.out]; simp
  · intro m hm hk
    have : (List.replicate (n + 1) false).getD m false = false := by
      have : m < n + 1 := by omega
      simp [List.getD, this]
    rw [this]
    constructor
    · intro h; cases h
    · rintro ⟨_, i, hi, _⟩; omega
theorem Seen.free {w2 wr : World} {gv k i f : Nat} {S : List Nat} {V : List Bool} (h : Seen w2 wr gv k i f S V) (hi : i < S.length) (h0 : S.getD i 0 = 0) : Seen w2 wr gv k (i + 1) (f + 1) S V :=
  ⟨h.row, h.len, fun m hm hk => (h.met m hm hk).trans ⟨moved_zero m, by
    rintro ⟨h1, i', h2, h3⟩
    refine ⟨h1, i', ?_, h3⟩
    rcases Nat.lt_succ_iff_lt_or_eq.1 h2 with h4 | h4
    · exact h4
    · subst h4; exact absurd (h3.symm.trans h0) h1⟩, by rw [nz_take_succ S i hi, if_pos h0]; have := h.cnt; omega, h.but⟩
theorem Seen.taken {w2 wr : World} {gv k i f : Nat} {S : List Nat} {V : List Bool} (h : Seen w2 wr gv k i f S V) (hi : i < S.length) (h0 : S.getD i 0 ≠ 0) (hk : S.getD i 0 ≤ k) :
    Seen w2 (wr.setCell ⟨gv, S.getD i 0, none⟩ (.bool true)) gv k (i + 1) f S (V.set (S.getD i 0) true) :=
  ⟨h.row.set _ _, by simp [h.len], fun m hm hk' => by
    have hl : S.getD i 0 < V.length := by rw [h.len]; omega
    by_cases e : m = S.getD i 0
    · subst e
      have e1 : (V.set (S.getD i 0) true).getD (S.getD i 0) false = true := getB_same V _ hl
      rw [e1]
      exact ⟨fun _ => ⟨h0, i, by omega, rfl⟩, fun _ => rfl⟩
    · have e1 : (V.set (S.getD i 0) true).getD m false = V.getD m false := getB_other V _ _ e
      rw [e1, h.met m hm hk']
      constructor
      · rintro ⟨h1, i', h2, h3⟩; exact ⟨h1, i', by omega, h3⟩
      · rintro ⟨h1, i', h2, h3⟩
        refine ⟨h1, i', ?_, h3⟩
        rcases Nat.lt_succ_iff_lt_or_eq.1 h2 with h4 | h4
        · exact h4
        · subst h4; exact absurd h3.symm e, by rw [nz_take_succ S i hi, if_neg h0]; have := h.cnt; omega, h.but.setCell _ _⟩
theorem Seen.fresh {w2 wr : World} {gv k i f p : Nat} {S T : List Nat} {V : List Bool} {H : Nat → Nat} {K : Nat → Prop} (h : Seen w2 wr gv k i f S V) (g : Good H p K S T) (hi : i < p) (h0 : S.getD i 0 ≠ 0) (hk : S.getD i 0 ≤ k) : V.getD (S.getD i 0) false = false := by
  cases hv : V.getD (S.getD i 0) false
  · rfl
  · exact absurd ((h.met _ h0 hk).1 hv) (not_moved g hi h0)
theorem Seen.below {w w2 wr : World} {gv k i f : Nat} {S : List Nat} {V : List Bool} (h : Seen w2 wr gv k i f S V) (hb : Below w.heap.size w w2) (hg : w.heap.size ≤ gv) : Below w.heap.size w wr :=
  hb.trans (h.but.keep.below hb.size (by intro j hj e; omega))

set_option maxRecDepth 100000 in
set_option maxHeartbeats 4000000 in
theorem law_pos (b o n c : Nat) (hs : List Nat) (w : World) (hn : 0 < n) (hn2 : n ≤ 4096) (hb : b < w.heap.size) (hc : ∀ i, i < n → w.cell? ⟨b, o + i, none⟩ = some (.int .u64 (hs.getD i 0 : Nat))) (hHH : ∀ m, hashOf hs m < 18446744073709551616) :
    Calls Try.prog 4 #[.slice (some ⟨b, o, none⟩) n c] w fun e w' => e = .returned (.bool true) ∧ Below w.heap.size w w' := by
  have z := zz10 (some ⟨b, o, none⟩) n c w (by unfold maxLen; omega)
  rw [show okLen n = true from by simp [okLen]; omega] at z
  have hhs : HsAt w w.heap.size (some ⟨b, o, none⟩) n hs := fun _ => ⟨b, o, rfl, hb, hc⟩
  have hw0 : Below w.heap.size w (w.alloc (.cells #[.slice none 0 0, .slice none 0 0, .int .i64 0] 30)) := (Below.refl _ _).alloc (Nat.le_refl _) _
  have ha := addAll8 w.heap.size w.heap.size n c (some ⟨b, o, none⟩) hs (w.alloc (.cells #[.slice none 0 0, .slice none 0 0, .int .i64 0] 30)) (.inl ⟨rfl, new_index w⟩) (by simp) (Nat.le_refl _) (hhs.below hw0) hn2 hHH
  have HC := hide hc
  have HHH := hide hHH
  clear hc hHH hhs
  obtain ⟨Z, hZ, mk38⟩ := make38 (n + 1) (by omega)
  rw [show ((n + 1 : Nat) : Int) = (n : Int) + 1 from by omega] at mk38
  have hnz : ((n : Int) == 0) = false := by simp; omega
  go_enter Try.func4, Try.ntmps4
  go_wp2_with (first
    | (go_at_call 10; refine z.mono ?_; rintro e w' ⟨rfl, rfl⟩)
    | (go_at_call 8; refine ha.mono ?_; rintro e w1 ⟨rfl, h1, b1⟩; rcases h1 with ⟨h0, _⟩ | ⟨p, gs, gt, S, T, hsz, ht⟩; exact absurd h0 (Nat.ne_of_gt hn); have hle := hsz.le; have hx := ht.ix)
    | (go_at_call 11; refine (slots11 _ _ _ _ _ _ hx).mono ?_; rintro e w' ⟨rfl, rfl⟩)
    | (go_at_call 12; refine (tags12 _ _ _ _ _ _ hx).mono ?_; rintro e w' ⟨rfl, rfl⟩)
    | (go_at_call 13; refine (count13 _ _ _ _ _ _ hx).mono ?_; rintro e w' ⟨rfl, rfl⟩)
    | (go_at_call 14; refine (least14 _ _ _ hsz hn2).mono ?_; rintro e w' ⟨rfl, rfl⟩))
  have hbel := (hw0.trans b1).alloc (B := w.heap.size) (by have := b1.size; simp at this; omega) (.cells Z 4)
  have hgv : w.heap.size ≤ w1.heap.size := by have := b1.size; simp at this; omega
  have lS := ht.us.lt
  have lT := ht.bs.lt
  have hU := ht.us.alloc (.cells Z 4)
  have hB := ht.bs.alloc (.cells Z 4)
  have hG := ht.good
  have HP := hide hsz.1
  have hNZ := hide ht.nzs
  have hbv : b < w1.heap.size := by omega
  have HC2 : Hid (∀ i, i < n → (w1.alloc (.cells Z 4)).cell? ⟨b, o + i, none⟩ = some (.int .u64 (hs.getD i 0 : Nat))) := fun i hi => by rw [hbel.cell (p := ⟨b, o + i, none⟩) hb]; exact unhide HC i hi
  obtain ⟨h8, hp2⟩ := hle
  have hz0 := Seen.start (w1 := w1) (n := n) (S := S) hZ
  clear z ha hw0 b1 hx ht hsz mk38 HC hZ
  go_loopg [9, 10] p (fun g fr iv wr => ∃ (i f : Nat) (V : List Bool), g + i = p ∧ fr = .int .i64 (f : Int) ∧ iv = .int .i64 (i : Int) ∧ Seen (w1.alloc (.cells Z 4)) wr w1.heap.size n i f S V)
  case atStart => exact ⟨0, 0, _, by omega, rfl, rfl, hz0⟩
  case round =>
    obtain ⟨i, f, V, hgk, rfl, rfl, hseen⟩ := hrel
    have hf : f ≤ i := by have := hseen.cnt; omega
    by_cases hi : i < p
    · have hiS : i < S.length := by rw [hG.lenS]; exact hi
      have hUr : URow wr gs S := by show _ = _; rw [hseen.but.block gs (Nat.ne_of_lt lS)]; exact hU.out
      have cS := hUr.cell i hiS
      by_cases hs0 : S.getD i 0 = 0
      · rw [hs0] at cS
        have hs2 := hseen.free hiS hs0
        have b0 : (((0 : Nat) : Int) == 0) = true := rfl
        have HS0 := hide hs0
        clear hs0 hUr
        go_wp2
        go_roundg (gk - 1)
        case measure => omega
        case rel => exact ⟨i + 1, f + 1, V, by omega, by go_num, by go_num, hs2⟩
      · have hrng := hG.rng i hi hs0
        obtain ⟨q, hq⟩ : ∃ q, S.getD i 0 = q + 1 := ⟨S.getD i 0 - 1, by omega⟩
        have hqn : q < n := by have := hrng.2; omega
        have hsn := hseen.taken hiS hs0 hrng.2
        have hfr := hseen.fresh hG hi hs0 hrng.2
        have htag := hG.tag i hi hs0
        obtain ⟨D, hD, hiD, hpath⟩ := hG.path i hi hs0
        rw [hq] at cS hsn hfr htag hiD hpath
        have cV := hseen.row.cell (q + 1) (by rw [hseen.len]; omega)
        rw [hfr] at cV
        have fV := hseen.row.free (q + 1)
        obtain ⟨hv, hhv⟩ : ∃ hv, hv = hashOf hs (q + 1) := ⟨_, rfl⟩
        have hvlt : hv < 18446744073709551616 := by rw [hhv]; exact unhide HHH _
        have hvq : hs.getD q 0 = hv := by rw [hhv]; simp [hashOf]
        rw [← hhv] at htag hiD hpath
        have cH := unhide HC2 q hqn
        rw [hvq] at cH
        have cH2 : (wr.setCell ⟨w1.heap.size, q + 1, none⟩ (.bool true)).cell? ⟨b, o + q, none⟩ = some (.int .u64 (hv : Int)) := by
          rw [hsn.but.cell ⟨b, o + q, none⟩ (Nat.ne_of_lt hbv)]; exact cH
        have hUr2 : URow (wr.setCell ⟨w1.heap.size, q + 1, none⟩ (.bool true)) gs S := by show _ = _; rw [hsn.but.block gs (Nat.ne_of_lt lS)]; exact hU.out
        have hBr2 : BRow (wr.setCell ⟨w1.heap.size, q + 1, none⟩ (.bool true)) gt T := by show _ = _; rw [hsn.but.block gt (Nat.ne_of_lt lT)]; exact hB.out
        have cT := hBr2.cell i (by rw [hG.lenT]; exact hi)
        rw [htag, show ((tagN hv : Nat) : Int) = (hv : Int) / 72057594037927936 from by unfold tagN; omega] at cT
        have hm : bits BinOp.and IntKind.u64 (hv : Int) ((p : Int) - 1) = ((hv % p : Nat) : Int) := and_mask hv p HP.out hvlt (by omega) (by omega)
        obtain ⟨j0, hj0⟩ : ∃ j0, j0 = hv % p := ⟨_, rfl⟩
        rw [← hj0] at hm
        have HJ0 : Hid (j0 = (hv + 0) % p) := by show _ = _; rw [hj0, Nat.add_zero]
        have hj0p : j0 < p := by rw [hj0]; exact Nat.mod_lt _ (by omega)
        have HPATH := hide hpath
        have HID := hide hiD
        rw [show ((q + 1 : Nat) : Int) = (q : Int) + 1 from by omega] at cS
        have t1 : (((q : Int) + 1) == 0) = false := by simp; omega
        have t2 : decide ((n : Int) < (q : Int) + 1) = false := by simp; omega
        clear hj0 hpath hiD hhv hvq htag hfr hq hs0 hrng cH hUr
        go_wp2
        clear cS cV fV cH2 cT hm t1 t2 hBr2 hU hB hz0
        obtain ⟨wv, hwv⟩ : ∃ wv, wv = wr.setCell ⟨w1.heap.size, q + 1, none⟩ (.bool true) := ⟨_, rfl⟩
        rw [← hwv] at hsn hUr2 ⊢
        clear hwv hseen
        go_loopg [13, 14] (D + 1) (fun g jv sv wi => ∃ d j : Nat, g + d = D + 1 ∧ d ≤ D ∧ jv = .int .u64 (j : Int) ∧ sv = .int .i64 (d : Int) ∧ Hid (j = (hv + d) % p) ∧ j < p ∧ wi = wv)
        case atStart => exact ⟨0, j0, by omega, by omega, rfl, rfl, HJ0, hj0p, rfl⟩
        case round =>
          obtain ⟨d, j, hgd, hdD, rfl, rfl, hj, hjp, rfl⟩ := hrel
          by_cases hji : j = i
          · have hb0 : ((j : Int) != (i : Int)) = false := by simp [hji]
            clear hji
            go_wp2
            go_roundg (p - (i + 1))
            case measure => omega
            case rel => exact ⟨i + 1, f, _, by omega, rfl, by go_num, hsn⟩
          · have hb0 : ((j : Int) != (i : Int)) = true := by simp; omega
            have hdlt : d < D := by
              rcases Nat.lt_or_ge d D with h1 | h1
              · exact h1
              · obtain rfl : d = D := by omega
                exact absurd (hj.out.trans HID.out.symm) hji
            have hne := HPATH.out d hdlt
            rw [← hj.out] at hne
            have cS := hUr2.cell j (by rw [hG.lenS]; exact hjp)
            obtain ⟨s, hs'⟩ : ∃ s, s = S.getD j 0 := ⟨_, rfl⟩
            rw [← hs'] at cS hne
            have t1 : ((s : Int) == 0) = false := by simp [hne]
            have t2 : decide ((p : Int) ≤ (d : Int)) = false := by simp; omega
            have hm : bits BinOp.and IntKind.u64 ((j : Int) + 1) ((p : Int) - 1) = (((j + 1) % p : Nat) : Int) := and_mask (j + 1) p HP.out (by omega) (by omega) (by omega)
            obtain ⟨j1, hj1⟩ : ∃ j1, j1 = (j + 1) % p := ⟨_, rfl⟩
            rw [← hj1] at hm
            have HJ1 : Hid (j1 = (hv + (d + 1)) % p) := by show _ = _; rw [hj1, hj.out]; exact next_slot hv d p
            have hj1p : j1 < p := by rw [hj1]; exact Nat.mod_lt _ (by omega)
            clear hj1 hs' hne hji
            go_wp2
            go_roundg (gk - 1)
            case measure => omega
            case rel => exact ⟨d + 1, j1, by omega, by omega, rfl, by go_num, HJ1, hj1p, rfl⟩
    · obtain rfl : i = p := by omega
      have hcnt := hseen.cnt
      rw [List.take_of_length_le (Nat.le_of_eq hG.lenS), unhide hNZ] at hcnt
      have hfin : ((f : Int) == (i : Int) - (n : Int)) = true := by simp; omega
      have HF := hide hcnt
      clear hcnt
      go_wp2
      go_ret
      exact ⟨rfl, hseen.below hbel hgv⟩

/-- WHAT THE WALK IS TOLD OF A SLICE OF INTEGERS THAT CAME IN (the shell's own words). -/
def IsRow (k : IntKind) (w : World) (a : Option Addr) (len cap : Nat) (zs : List Int) : Prop :=
  (a = none ∧ len = 0 ∧ cap = 0 ∧ zs = []) ∨
  ∃ x, a = some x ∧ len ≤ cap ∧ cap ≤ maxLen ∧ zs.length = cap ∧ (∀ i, i < zs.length → w.cell? (x.add i) = some (.int k (zs.getD i 0))) ∧ ∀ n ∈ zs, (Lit.int k n).wf = true

theorem hash_lt (z : List Int) (hz : ∀ n ∈ z, (Lit.int .u64 n).wf = true) (m : Nat) : hashOf (z.map Int.toNat) m < 18446744073709551616 := by
  unfold hashOf
  by_cases h : m - 1 < z.length
  · have := bounds_u64 (hz z[m - 1] (List.getElem_mem h))
    simp [List.getD, h]
    omega
  · simp [List.getD, h]

/-- THE WALK, WHOLE. -/
theorem law_all (a0 : Option Addr) (len0 cap0 : Nat) (z0 : List Int) (w : World) (w0 : IsRow .u64 w a0 len0 cap0 z0) :
    Calls Try.prog 4 #[.slice a0 len0 cap0] w fun e w' => e = .returned (.bool true) ∧ Below w.heap.size w w' := by
  rcases w0 with ⟨rfl, rfl, rfl, rfl⟩ | ⟨x, rfl, hl, hm, hz, hcell, hwz⟩
  · exact law_zero none 0 w
  · by_cases h1 : 4096 < len0
    · exact law_early (some x) len0 cap0 w (by omega) h1
    · rcases Nat.eq_zero_or_pos len0 with h0 | h0
      · subst h0; exact law_zero (some x) cap0 w
      · obtain ⟨b, o, s⟩ := x
        have hc0 := hcell 0 (by omega)
        obtain rfl : s = none := by simpa [Addr.add] using World.cell?_spot hc0
        have hplain : ∀ i, (⟨b, o, none⟩ : Addr).add i = ⟨b, o + i, none⟩ := fun i => by unfold Addr.add; split <;> simp_all
        refine law_pos b o len0 cap0 (z0.map Int.toNat) w h0 (by omega) ?_ ?_ (hash_lt z0 hwz)
        · rw [hplain] at hc0
          exact block_lt_of_cell hc0
        · intro i hi
          rw [← hplain, hcell i (by omega)]
          have hb := bounds_u64 (hwz z0[i] (List.getElem_mem (by omega)))
          have hi' : i < z0.length := by omega
          simp [List.getD, hi']
          omega
#print axioms law_all
end Go.Proofs.Qxb6612798a.Ix
