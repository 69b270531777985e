/-
  THE WALK OF 'FnUnionScriptNamesEachSetBySmallest'.
-/
import Derived.Test.Qxb6612831aPairs
import Derived.Deep.RegionHeld3
namespace Go.Proofs.Qxb6612831a.Uf
open Go.RowKit

/-- w' is w but for what lies in blocks g and h; no block has come or gone. -/
structure But2 (g h : Nat) (w w' : World) : Prop where
  os : w'.os = w.os
  tape : w'.tape = w.tape
  output : w'.output = w.output
  size : w'.heap.size = w.heap.size
  block : ∀ k, k ≠ g → k ≠ h → w'.heap[k]? = w.heap[k]?
theorem But2.refl (g h : Nat) (w : World) : But2 g h w w := ⟨rfl, rfl, rfl, rfl, fun _ _ _ => rfl⟩
theorem But2.left {g h : Nat} {a b c : World} (x : But2 g h a b) (y : But g b c) : But2 g h a c := ⟨y.os.trans x.os, y.tape.trans x.tape, y.output.trans x.output, y.size.trans x.size, fun i h1 h2 => (y.block i h1).trans (x.block i h1 h2)⟩
theorem But2.right {g h : Nat} {a b c : World} (x : But2 g h a b) (y : But h b c) : But2 g h a c := ⟨y.os.trans x.os, y.tape.trans x.tape, y.output.trans x.output, y.size.trans x.size, fun i h1 h2 => (y.block i h2).trans (x.block i h1 h2)⟩
theorem But2.below {g h B : Nat} {w w' : World} (x : But2 g h w w') (hg : B ≤ g) (hh : B ≤ h) : Below B w w' := ⟨x.os, x.tape, x.output, Nat.le_of_eq x.size.symm, fun k hk => x.block k (by omega) (by omega)⟩
theorem But2.drew {g h : Nat} {w w' : World} (x : But2 g h w w') : But2 g h w w'.drew := ⟨x.os, x.tape, x.output, x.size, x.block⟩
theorem But2.drewN {g h : Nat} {w w' : World} (x : But2 g h w w') (n : Nat) : But2 g h w (w'.drewN n) := ⟨x.os, x.tape, x.output, x.size, x.block⟩
theorem But2.pairs {g h g' : Nat} {w w' : World} {Q : List Nat} (x : But2 g h w w') (k : PRow w g' Q) (h1 : g' ≠ g) (h2 : g' ≠ h) : PRow w' g' Q := by
  show _ = _
  rw [x.block g' h1 h2]; exact k.out
theorem But.cell {g : Nat} {w w' : World} (h : But g w w') (a : Addr) (ha : a.block ≠ g) : w'.cell? a = w.cell? a := World.cell?_of_block (h.block a.block ha)

theorem IRow.other {w : World} {g : Nat} {S : List Nat} (h : IRow w g S) (a : Addr) (v : Value) (hg : g ≠ a.block) : IRow (w.setCell a v) g S := by
  show _ = _
  rw [Below.heap_setCell _ _ _ _ hg]; exact h.out

theorem range_of {V : List Nat} {n : Nat} (hl : V.length = n) (h : ∀ j, j < n → V.getD j 0 = j) : V = List.range n := by
  apply ext_of (by simp [hl])
  intro j hj
  rw [h j (by omega)]
  have : j < n := by omega
  simp [List.getD, this]

theorem merged_same (L : List Nat) (a : Nat) : merged L a a = L := by
  unfold merged
  have : merge a a = id := funext fun r => merge_same a r
  rw [this]; simp

/-- What the labels hold in the middle of a relabelling. -/
def Half (L V : List Nat) (a b n j : Nat) : Prop := V.length = n ∧ (∀ i, i < j → V.getD i 0 = merge a b (L.getD i 0)) ∧ ∀ i, j ≤ i → V.getD i 0 = L.getD i 0
theorem Half.start {L : List Nat} {a b n : Nat} (h : L.length = n) : Half L L a b n 0 := ⟨h, fun i hi => by omega, fun _ _ => rfl⟩
theorem Half.keep {L V : List Nat} {a b n j : Nat} (h : Half L V a b n j) (hm : merge a b (L.getD j 0) = L.getD j 0) : Half L V a b n (j + 1) :=
  ⟨h.1, fun i hi => by
    rcases Nat.lt_succ_iff_lt_or_eq.1 hi with h1 | h1
    · exact h.2.1 i h1
    · subst h1; rw [hm]; exact h.2.2 i (Nat.le_refl _), fun i hi => h.2.2 i (by omega)⟩
theorem Half.turn {L V : List Nat} {a b n j : Nat} (h : Half L V a b n j) (hj : j < n) (v : Nat) (hm : merge a b (L.getD j 0) = v) : Half L (V.set j v) a b n (j + 1) := by
  have hl : j < V.length := by rw [h.1]; exact hj
  refine ⟨by simp [h.1], fun i hi => ?_, fun i hi => ?_⟩
  · rw [getD_set V j v i hl]
    split
    · rename_i e; rw [e, hm]
    · exact h.2.1 i (by omega)
  · rw [getD_set V j v i hl, if_neg (by omega)]
    exact h.2.2 i (by omega)
theorem Half.done {L V : List Nat} {a b n : Nat} (h : Half L V a b n n) (hL : L.length = n) : V = merged L a b := by
  apply ext_of (by simp [merged, h.1, hL])
  intro i hi
  rw [h.2.1 i (by rw [← h.1]; exact hi), getD_merged L a b i (by rw [hL, ← h.1]; exact hi)]

/-- The pairs are pairs of nodes. -/
def Nodes (zs : List Int) (n m : Nat) : Prop := ∀ i, i < m * 2 → 0 ≤ zs.getD i 0 ∧ zs.getD i 0 < n

theorem lies_pairs {w : World} {b o n m : Nat} {zs : List Int} (hl : zs.length = m * 2) (h : Nodes zs n m) (hb : b < w.heap.size) (hc : ∀ i, i < m * 2 → w.cell? ⟨b, o + i, none⟩ = some (.int .i32 (zs.getD i 0))) : Lies w b o (m * 2) (zs.map Int.toNat) := by
  refine ⟨by simp [hl], hb, fun i hi => ?_⟩
  rw [hc i hi]
  have := h i hi
  have hx' : i < zs.length := by omega
  simp [List.getD, hx'] at this ⊢
  omega
theorem nodes_nat {zs : List Int} {n m : Nat} (hl : zs.length = m * 2) (h : Nodes zs n m) : ∀ i, i < m * 2 → (zs.map Int.toNat).getD i 0 < n := fun i hi => by
  have := h i hi
  have hx' : i < zs.length := by omega
  simp [List.getD, hx'] at this ⊢
  omega

/-- What the two rows hold between two unions. -/
structure Mid (w2 wr : World) (gu gl n : Nat) (U L : List Nat) : Prop where
  us : IRow wr gu U
  ls : IRow wr gl L
  f : Forest U n
  r : IsRoots U L n
  but : But2 gu gl w2 wr

set_option maxRecDepth 100000 in
set_option maxHeartbeats 4000000 in
theorem law4_main (b o n m c : Nat) (zs : List Int) (w : World) (hn : n ≤ 4096) (hm : m ≤ 4096) (hm0 : 0 < m) (hl : Hid (zs.length = m * 2)) (hb : b < w.heap.size) (hc : Hid (∀ i, i < m * 2 → w.cell? ⟨b, o + i, none⟩ = some (.int .i32 (zs.getD i 0)))) (hzb : Hid (∀ i, i < m * 2 → -2147483648 ≤ zs.getD i 0 ∧ zs.getD i 0 ≤ 2147483647)) :
    Calls Try.prog 4 #[.int .i64 n, .slice (some ⟨b, o, none⟩) m c] w fun e w' => e = .returned (.bool true) ∧ Below w.heap.size w w' := by
  have z := zz10 (some ⟨b, o, none⟩) n m c w (by unfold maxLen; omega)
  rw [show okLen m = true from by simp [okLen]; omega] at z
  have t0 : decide ((n : Int) < 0) = false := by simp
  have t1 : decide ((4096 : Int) < (n : Int)) = false := by simp; omega
  go_enter Try.func4, Try.ntmps4
  go_wp2_with (go_at_call 10; refine z.mono ?_; rintro e w' ⟨rfl, rfl⟩)
  clear z t0 t1
  go_loop [5] (fun y => ∃ k : Nat, k ≤ m ∧ y = .int .i64 (k : Int) ∧ Hid (Nodes zs n k)) (fun y => m - (intOf y).toNat)
  case atStart => exact ⟨0, Nat.zero_le _, rfl, fun j hj => by omega⟩
  case round =>
    obtain ⟨k, hk, rfl, hall⟩ := hrel
    by_cases hlt : k < m
    · have c0 := unhide hc (k * 2) (by omega)
      have c1 := unhide hc (k * 2 + 1) (by omega)
      rw [← Nat.add_assoc] at c1
      have hz0 := unhide hzb (k * 2) (by omega)
      have hz1 := unhide hzb (k * 2 + 1) (by omega)
      obtain ⟨u, hu⟩ : ∃ u, u = zs.getD (k * 2) 0 := ⟨_, rfl⟩
      obtain ⟨t, ht⟩ : ∃ t, t = zs.getD (k * 2 + 1) 0 := ⟨_, rfl⟩
      rw [← hu] at c0 hz0
      rw [← ht] at c1 hz1
      have HU := hide hu
      have HT := hide ht
      clear hu ht
      by_cases h1 : u < 0
      · go_wp2
        go_ret
        exact ⟨rfl, Below.refl _ _⟩
      have d1 : decide (u < 0) = false := by simp; omega
      by_cases h2 : (n : Int) ≤ u
      · go_wp2
        go_ret
        exact ⟨rfl, Below.refl _ _⟩
      have d2 : decide ((n : Int) ≤ u) = false := by simp; omega
      by_cases h3 : t < 0
      · go_wp2
        go_ret
        exact ⟨rfl, Below.refl _ _⟩
      have d3 : decide (t < 0) = false := by simp; omega
      by_cases h4 : (n : Int) ≤ t
      · go_wp2
        go_ret
        exact ⟨rfl, Below.refl _ _⟩
      have hall2 : Hid (Nodes zs n (k + 1)) := fun j hj => by
        by_cases e1 : j < k * 2
        · exact unhide hall j e1
        · by_cases e2 : j = k * 2
          · rw [e2, ← unhide HU]; omega
          · rw [show j = k * 2 + 1 from by omega, ← unhide HT]; omega
      go_wp2
      go_round
      case rel => exact ⟨k + 1, by omega, by go_num, hall2⟩
      case measure => simp [intOf]; omega
    · obtain rfl : k = m := by omega
      have hL := lies_pairs (unhide hl) (unhide hall) hb (unhide hc)
      have hN := nodes_nat (unhide hl) (unhide hall)
      obtain ⟨Q, hQ⟩ : ∃ Q, Q = zs.map Int.toNat := ⟨_, rfl⟩
      rw [← hQ] at hL hN
      have HN := hide hN
      clear hQ hc hzb hall hl hN
      have q1 := clone11 b o k c Q w hL hm
      have QL := hide hL.len
      go_wp2_with fail
      refine q1.mono ?_
      rintro e w1 ⟨rfl, i1, b1⟩
      have l1 := i1.lt
      clear q1 hL
      obtain ⟨Z, hZ, mk⟩ := make22 n (by omega)
      go_wp2
      have ha1 : Below w.heap.size w1 ((w1.alloc (.cells Z 21)).alloc (.cells Z 21)) := ((Below.refl _ _).alloc (by omega) _).alloc (by simp; omega) _
      obtain ⟨W, hW⟩ : ∃ W, W = (w1.alloc (.cells Z 21)).alloc (.cells Z 21) := ⟨_, rfl⟩
      have iu : IRow W w1.heap.size (List.replicate n 0) := by
        rw [hW]; show ((w1.heap.push _).push _)[w1.heap.size]? = _
        rw [hZ.out]; simp [Array.getElem?_push]
      have il : IRow W (w1.heap.size + 1) (List.replicate n 0) := by
        rw [hW]; show ((w1.heap.push _).push _)[w1.heap.size + 1]? = _
        rw [hZ.out, Array.getElem?_push]; simp
      have ip : PRow W w.heap.size Q := by
        rw [hW]; show ((w1.heap.push _).push _)[w.heap.size]? = _
        rw [Array.getElem?_push, if_neg (by simp; omega), Array.getElem?_push, if_neg (by omega)]; exact i1.out
      rw [← hW] at ha1 ⊢
      have belW := b1.trans ha1
      clear hW ha1 b1 i1 mk hZ
      obtain ⟨gu, hgu⟩ : ∃ gu, gu = w1.heap.size := ⟨_, rfl⟩
      rw [← hgu] at iu il l1 ⊢
      clear hgu
      go_loopg [8] n (fun g v wr => ∃ (j : Nat) (V : List Nat), g + j = n ∧ v = .int .i64 (j : Int) ∧ IRow wr gu V ∧ IRow wr (gu + 1) V ∧ Hid (V.length = n ∧ ∀ i, i < j → V.getD i 0 = i) ∧ But2 gu (gu + 1) W wr)
      case atStart => exact ⟨0, _, by omega, rfl, iu, il, ⟨by simp, fun i hi => by omega⟩, But2.refl _ _ _⟩
      case round =>
        obtain ⟨j, V, hgk, rfl, hu, hlab, hall, hbut⟩ := hrel
        by_cases hlt : j < n
        · have hlen := hall.out.1
          have c0 := hu.cell j (by omega)
          have f0 := hu.free j
          have hu2 := hu.set j j
          have hlab1 := hlab.other ⟨gu, j, none⟩ (.int .i32 j) (Nat.succ_ne_self gu)
          have c1 := hlab1.cell j (by omega)
          have f1 := hlab1.free j
          have hlab2 := hlab1.set j j
          have hu3 := hu2.other ⟨gu + 1, j, none⟩ (.int .i32 j) (Nat.ne_of_lt (Nat.lt_succ_self gu))
          have hall2 : Hid ((V.set j j).length = n ∧ ∀ i, i < j + 1 → (V.set j j).getD i 0 = i) := by
            refine ⟨by simp [hlen], fun i hi => ?_⟩
            rw [getD_set V j j i (by omega)]
            split
            · rename_i e; exact e.symm
            · exact hall.out.2 i (by omega)
          clear hlen
          go_wp2
          go_roundg (gk - 1)
          case measure => omega
          case rel => exact ⟨j + 1, V.set j j, by omega, by go_num, hu3, hlab2, hall2, (hbut.left ((But.refl _ _).setCell _ _)).right ((But.refl _ _).setCell _ _)⟩
        · obtain rfl : j = n := by omega
          have hV := range_of hall.out.1 hall.out.2
          subst hV
          have hmid : Mid W wr gu (gu + 1) j (List.range j) (List.range j) := ⟨hu, hlab, (alone j).1, (alone j).2, hbut⟩
          clear hu hlab hall hbut iu il
          go_wp2
          go_loopg [9] k (fun g v wi => ∃ (y : Nat) (U L : List Nat), g + y = k ∧ v = .int .i64 (y : Int) ∧ Mid W wi gu (gu + 1) j U L)
          case atStart => exact ⟨0, _, _, by omega, rfl, hmid⟩
          case round =>
            obtain ⟨y, U, L, hgy, rfl, hmid⟩ := hrel
            by_cases hyk : y < k
            · have ipr := hmid.but.pairs ip (Nat.ne_of_lt l1) (by omega)
              have hq0 := unhide HN (y * 2) (by omega)
              have hq1 := unhide HN (y * 2 + 1) (by omega)
              have c0 := ipr.cell (y * 2) (by rw [unhide QL]; omega)
              have c1 := ipr.cell (y * 2 + 1) (by rw [unhide QL]; omega)
              obtain ⟨p0, hp0⟩ : ∃ p0, p0 = Q.getD (y * 2) 0 := ⟨_, rfl⟩
              obtain ⟨p1, hp1⟩ : ∃ p1, p1 = Q.getD (y * 2 + 1) 0 := ⟨_, rfl⟩
              rw [← hp0] at c0 hq0
              rw [← hp1] at c1 hq1
              have hun := fun wx (hx : IRow wx gu U) => union9 gu j U L p0 p1 wx hx hmid.f hmid.r hq0 hq1
              have hla := hmid.r.le hmid.f p0 hq0
              have hlb := hmid.r.le hmid.f p1 hq1
              have e0 := hmid.ls.cell p0 (by rw [hmid.r.len]; exact hq0)
              have e1 := hmid.ls.cell p1 (by rw [hmid.r.len]; exact hq1)
              obtain ⟨a0, ha0⟩ : ∃ a0, a0 = L.getD p0 0 := ⟨_, rfl⟩
              obtain ⟨b0, hb0⟩ : ∃ b0, b0 = L.getD p1 0 := ⟨_, rfl⟩
              rw [← ha0] at hun e0 hla
              rw [← hb0] at hun e1 hlb
              have HUN := hide hun
              have k0 : (0 : Int) ≤ (y : Int) := by omega
              have k1 : (y : Int) < (k : Int) := by omega
              clear hp0 hp1 ha0 hb0 hun
              have hUU := hmid.us
              go_wp2
              go_region_held3 (fun w' => w'.cell? ⟨w.heap.size, y * 2, none⟩ = some (.int .i32 (p0 : Int)) ∧ w'.cell? ⟨w.heap.size, y * 2 + 1, none⟩ = some (.int .i32 (p1 : Int))) (go_keep) ((go_at_call 9; refine ((unhide HUN) _ ?_).mono ?_; exact hUU; rintro e w3 ⟨rfl, U3, i3, f3, r3, bb3⟩; have s0 := (bb3.cell ⟨w.heap.size, y * 2, none⟩ (Nat.ne_of_lt l1)).trans c0; have s1 := (bb3.cell ⟨w.heap.size, y * 2 + 1, none⟩ (Nat.ne_of_lt l1)).trans c1; have e03 := (bb3.cell ⟨gu + 1, p0, none⟩ (Nat.succ_ne_self gu)).trans e0; have e13 := (bb3.cell ⟨gu + 1, p1, none⟩ (Nat.succ_ne_self gu)).trans e1; have il3 := bb3.row hmid.ls (Nat.succ_ne_self gu)))
              all_goals
                have hbut3 := hmid.but.drew.left bb3
                have hLl := hide hmid.r.len
                clear HUN hUU hmid c0 c1 e0 e1 bb3 ipr
                by_cases hab : a0 = b0
                · subst hab
                  rw [merged_same] at r3
                  have d0 : ((a0 : Int) != (a0 : Int)) = false := by simp
                  go_wp2
                  go_roundg (gk - 1)
                  case measure => omega
                  case rel => exact ⟨y + 1, U3, L, by omega, by go_num, i3, il3, f3, r3, hbut3⟩
                · have d0 : ((a0 : Int) != (b0 : Int)) = true := by simp; omega
                  rcases Nat.lt_or_ge b0 a0 with hcmp | hcmp
                  all_goals
                    go_wp2
                    clear s0 s1 e03 e13 d0
                    go_loopg [13] j (fun g v wi => ∃ (x : Nat) (V : List Nat), g + x = j ∧ v = .int .i64 (x : Int) ∧ IRow wi (gu + 1) V ∧ Hid (Half L V a0 b0 j x) ∧ But (gu + 1) w3 wi)
                    case atStart => exact ⟨0, L, by omega, rfl, il3, Half.start (unhide hLl), But.refl _ _⟩
                    case round =>
                      obtain ⟨x, V, hgx, rfl, hVl, hhalf, hbi⟩ := hrel
                      by_cases hxj : x < j
                      · have cx := hVl.cell x (by rw [hhalf.out.1]; exact hxj)
                        rw [hhalf.out.2.2 x (Nat.le_refl _)] at cx
                        have fx := hVl.free x
                        obtain ⟨t, ht⟩ : ∃ t, t = L.getD x 0 := ⟨_, rfl⟩
                        rw [← ht] at cx
                        by_cases e1 : t = a0
                        · have g1 : ((t : Int) == (a0 : Int)) = true := by simp [e1]
                          have hm1 : merge a0 b0 (L.getD x 0) = min a0 b0 := by rw [← ht]; unfold merge; rw [if_pos (.inl e1)]
                          first | rw [Nat.min_eq_right (Nat.le_of_lt hcmp)] at hm1 | rw [Nat.min_eq_left hcmp] at hm1
                          have hh2 := hide (hhalf.out.turn hxj _ hm1)
                          clear e1 ht hm1
                          go_wp2
                          go_roundg (gk - 1)
                          case measure => omega
                          case rel => exact ⟨x + 1, _, by omega, by go_num, hVl.set x _, hh2, hbi.setCell _ _⟩
                        · have g1 : ((t : Int) == (a0 : Int)) = false := by simp; omega
                          by_cases e2 : t = b0
                          · have g2 : ((t : Int) == (b0 : Int)) = true := by simp [e2]
                            have hm1 : merge a0 b0 (L.getD x 0) = min a0 b0 := by rw [← ht]; unfold merge; rw [if_pos (.inr e2)]
                            first | rw [Nat.min_eq_right (Nat.le_of_lt hcmp)] at hm1 | rw [Nat.min_eq_left hcmp] at hm1
                            have hh2 := hide (hhalf.out.turn hxj _ hm1)
                            clear e1 e2 ht hm1
                            go_wp2
                            go_roundg (gk - 1)
                            case measure => omega
                            case rel => exact ⟨x + 1, _, by omega, by go_num, hVl.set x _, hh2, hbi.setCell _ _⟩
                          · have g2 : ((t : Int) == (b0 : Int)) = false := by simp; omega
                            have hm1 : merge a0 b0 (L.getD x 0) = L.getD x 0 := by rw [← ht]; unfold merge; rw [if_neg (by rintro (h | h) <;> omega)]
                            have hh2 := hide (hhalf.out.keep hm1)
                            clear e1 e2 ht hm1
                            go_wp2
                            go_roundg (gk - 1)
                            case measure => omega
                            case rel => exact ⟨x + 1, V, by omega, by go_num, hVl, hh2, hbi⟩
                      · obtain rfl : x = j := by omega
                        have hVm := hhalf.out.done (unhide hLl)
                        subst hVm
                        have hmid3 : Mid W wr gu (gu + 1) x U3 (merged L a0 b0) := ⟨hbi.row i3 (Nat.ne_of_lt (Nat.lt_succ_self gu)), hVl, f3, r3, hbut3.right hbi⟩
                        clear hhalf hVl
                        go_wp2
                        go_roundg (k - (y + 1))
                        case measure => omega
                        case rel => exact ⟨y + 1, U3, _, by omega, by go_num, hmid3⟩
            · have hyy : y = k := by omega
              have i4 := hmid.us
              have f4 := hmid.f
              have il := hmid.ls
              have hLl := hide hmid.r.len
              have hMu := hide (fun R' (h' : IsRoots U R' j) x (hx : x < j) => h'.unique f4 hmid.r x hx)
              have bel4 := belW.trans (hmid.but.below (B := w.heap.size) (by omega) (by omega))
              have q5 := roots8 gu 0 j j U wr (i4.lies f4.len) f4 (by omega)
              have l4 := i4.lt
              have l5 := il.lt
              clear hyy hmid
              go_wp2
              go_loop [14] (fun v => ∃ x : Nat, x ≤ j ∧ v = .int .i64 (x : Int)) (fun v => j - (intOf v).toNat)
              case atStart => exact ⟨0, Nat.zero_le _, rfl⟩
              case round =>
                obtain ⟨x, hx, rfl⟩ := hrel
                by_cases hxj : x < j
                · have c0 := i4.cell x (by rw [f4.len]; exact hxj)
                  have hle := f4.le x hxj
                  obtain ⟨u, hu⟩ : ∃ u, u = U.getD x 0 := ⟨_, rfl⟩
                  rw [← hu] at c0 hle
                  have d1 : decide ((u : Int) < 0) = false := by simp
                  have d2 : decide ((x : Int) < (u : Int)) = false := by simp; omega
                  clear hu
                  go_wp2
                  go_round
                  case rel => exact ⟨x + 1, by omega, by go_num⟩
                  case measure => simp [intOf]; omega
                · have hxe : x = j := by omega
                  clear hxe
                  go_wp2_with fail
                  refine q5.mono ?_
                  rintro e w5 ⟨rfl, R5, i5, hR5, b5⟩
                  have il5 : IRow w5 (gu + 1) L := by show _ = _; rw [b5.block (gu + 1) l5]; exact il.out
                  have HEQ := hide (unhide hMu R5 hR5)
                  have HL5 := hide hR5.len
                  have bel5 := bel4.trans (b5.mono (by omega))
                  clear q5 il hMu hR5 b5 bel4 f4 i4
                  go_wp2
                  go_loopw [16] (fun v wz => ∃ x : Nat, x ≤ j ∧ v = .int .i64 (x : Int) ∧ ∃ nd, wz = w5.drewN nd) (fun v _ => j - (intOf v).toNat)
                  case atStart => exact ⟨0, Nat.zero_le _, rfl, 0, rfl⟩
                  case round =>
                    obtain ⟨x, hx, rfl, nd, rfl⟩ := hrel
                    by_cases hxj : x < j
                    · have c5 := i5.cell x (by rw [unhide HL5]; exact hxj)
                      have cl := il5.cell x (by rw [unhide hLl]; exact hxj)
                      rw [unhide HEQ x hxj] at c5
                      obtain ⟨t, ht⟩ : ∃ t, t = L.getD x 0 := ⟨_, rfl⟩
                      rw [← ht] at c5 cl
                      clear ht
                      go_wp2
                      go_quiet (fail)
                      go_wp2
                      go_roundw
                      case rel => exact ⟨x + 1, by omega, by go_num, nd + nq, rfl⟩
                      case measure => simp [intOf]; omega
                    · go_wp2
                      go_ret
                      exact ⟨rfl, ⟨bel5.os, bel5.tape, bel5.output, bel5.size, bel5.block⟩⟩

set_option maxRecDepth 100000 in
set_option maxHeartbeats 4000000 in
theorem law4_zero (p : Option Addr) (n c : Nat) (w : World) (hn : n ≤ 4096) :
    Calls Try.prog 4 #[.int .i64 n, .slice p 0 c] w fun e w' => e = .returned (.bool true) ∧ Below w.heap.size w w' := by
  have z := zz10 p n 0 c w (by unfold maxLen; omega)
  rw [show okLen 0 = true from rfl] at z
  have q1 := clone11_zero p c w
  have t0 : decide ((n : Int) < 0) = false := by simp
  have t1 : decide ((4096 : Int) < (n : Int)) = false := by simp; omega
  go_enter Try.func4, Try.ntmps4
  go_wp2_with (go_at_call 10; refine z.mono ?_; rintro e w' ⟨rfl, rfl⟩)
  clear z t0 t1
  refine wp_loop_rounds 1 ?_
  rw [rounds_succ]
  go_wp2_with fail
  refine q1.mono ?_
  rintro e w1 ⟨⟨p', rfl⟩, b1⟩
  have l1 : w.heap.size ≤ w1.heap.size := b1.size
  clear q1
  obtain ⟨Z, hZ, mk⟩ := make22 n (by omega)
  go_wp2
  have ha1 : Below w.heap.size w1 ((w1.alloc (.cells Z 21)).alloc (.cells Z 21)) := ((Below.refl _ _).alloc (by omega) _).alloc (by simp; omega) _
  obtain ⟨W, hW⟩ : ∃ W, W = (w1.alloc (.cells Z 21)).alloc (.cells Z 21) := ⟨_, rfl⟩
  have iu : IRow W w1.heap.size (List.replicate n 0) := by
    rw [hW]; show ((w1.heap.push _).push _)[w1.heap.size]? = _
    rw [hZ.out]; simp [Array.getElem?_push]
  have il : IRow W (w1.heap.size + 1) (List.replicate n 0) := by
    rw [hW]; show ((w1.heap.push _).push _)[w1.heap.size + 1]? = _
    rw [hZ.out, Array.getElem?_push]; simp
  rw [← hW] at ha1 ⊢
  have belW := b1.trans ha1
  clear hW ha1 b1 mk hZ
  obtain ⟨gu, hgu⟩ : ∃ gu, gu = w1.heap.size := ⟨_, rfl⟩
  rw [← hgu] at iu il l1 ⊢
  clear hgu
  go_loopg [8] n (fun g v wr => ∃ (j : Nat) (V : List Nat), g + j = n ∧ v = .int .i64 (j : Int) ∧ IRow wr gu V ∧ IRow wr (gu + 1) V ∧ Hid (V.length = n ∧ ∀ i, i < j → V.getD i 0 = i) ∧ But2 gu (gu + 1) W wr)
  case atStart => exact ⟨0, _, by omega, rfl, iu, il, ⟨by simp, fun i hi => by omega⟩, But2.refl _ _ _⟩
  case round =>
    obtain ⟨j, V, hgk, rfl, hu, hlab, hall, hbut⟩ := hrel
    by_cases hlt : j < n
    · have hlen := hall.out.1
      have c0 := hu.cell j (by omega)
      have f0 := hu.free j
      have hu2 := hu.set j j
      have hlab1 := hlab.other ⟨gu, j, none⟩ (.int .i32 j) (Nat.succ_ne_self gu)
      have c1 := hlab1.cell j (by omega)
      have f1 := hlab1.free j
      have hlab2 := hlab1.set j j
      have hu3 := hu2.other ⟨gu + 1, j, none⟩ (.int .i32 j) (Nat.ne_of_lt (Nat.lt_succ_self gu))
      have hall2 : Hid ((V.set j j).length = n ∧ ∀ i, i < j + 1 → (V.set j j).getD i 0 = i) := by
        refine ⟨by simp [hlen], fun i hi => ?_⟩
        rw [getD_set V j j i (by omega)]
        split
        · rename_i e; exact e.symm
        · exact hall.out.2 i (by omega)
      clear hlen
      go_wp2
      go_roundg (gk - 1)
      case measure => omega
      case rel => exact ⟨j + 1, V.set j j, by omega, by go_num, hu3, hlab2, hall2, (hbut.left ((But.refl _ _).setCell _ _)).right ((But.refl _ _).setCell _ _)⟩
    · obtain rfl : j = n := by omega
      have hV := range_of hall.out.1 hall.out.2
      subst hV
      have hmid : Mid W wr gu (gu + 1) j (List.range j) (List.range j) := ⟨hu, hlab, (alone j).1, (alone j).2, hbut⟩
      clear hu hlab hall hbut iu il
      go_wp2
      have i4 := hmid.us
      have f4 := hmid.f
      have il := hmid.ls
      have hLl := hide hmid.r.len
      have hMu := hide (fun R' (h' : IsRoots (List.range j) R' j) x (hx : x < j) => h'.unique f4 hmid.r x hx)
      have bel4 := belW.trans (hmid.but.below (B := w.heap.size) (by omega) (by omega))
      have q5 := roots8 gu 0 j j (List.range j) wr (i4.lies f4.len) f4 (by omega)
      have l4 := i4.lt
      have l5 := il.lt
      clear hmid
      refine wp_loop_rounds 1 ?_
      rw [rounds_succ]
      go_wp2
      go_loop [14] (fun v => ∃ x : Nat, x ≤ j ∧ v = .int .i64 (x : Int)) (fun v => j - (intOf v).toNat)
      case atStart => exact ⟨0, Nat.zero_le _, rfl⟩
      case round =>
        obtain ⟨x, hx, rfl⟩ := hrel
        by_cases hxj : x < j
        · have c0 := i4.cell x (by rw [f4.len]; exact hxj)
          have hle := f4.le x hxj
          obtain ⟨u, hu⟩ : ∃ u, u = (List.range j).getD x 0 := ⟨_, rfl⟩
          rw [← hu] at c0 hle
          have d1 : decide ((u : Int) < 0) = false := by simp
          have d2 : decide ((x : Int) < (u : Int)) = false := by simp; omega
          clear hu
          go_wp2
          go_round
          case rel => exact ⟨x + 1, by omega, by go_num⟩
          case measure => simp [intOf]; omega
        · have hxe : x = j := by omega
          clear hxe
          go_wp2_with fail
          refine q5.mono ?_
          rintro e w5 ⟨rfl, R5, i5, hR5, b5⟩
          have il5 : IRow w5 (gu + 1) (List.range j) := by show _ = _; rw [b5.block (gu + 1) l5]; exact il.out
          have HEQ := hide (unhide hMu R5 hR5)
          have HL5 := hide hR5.len
          have bel5 := bel4.trans (b5.mono (by omega))
          clear q5 il hMu hR5 b5 bel4 f4 i4
          go_wp2
          go_loopw [16] (fun v wz => ∃ x : Nat, x ≤ j ∧ v = .int .i64 (x : Int) ∧ ∃ nd, wz = w5.drewN nd) (fun v _ => j - (intOf v).toNat)
          case atStart => exact ⟨0, Nat.zero_le _, rfl, 0, rfl⟩
          case round =>
            obtain ⟨x, hx, rfl, nd, rfl⟩ := hrel
            by_cases hxj : x < j
            · have c5 := i5.cell x (by rw [unhide HL5]; exact hxj)
              have cl := il5.cell x (by rw [unhide hLl]; exact hxj)
              rw [unhide HEQ x hxj] at c5
              obtain ⟨t, ht⟩ : ∃ t, t = (List.range j).getD x 0 := ⟨_, rfl⟩
              rw [← ht] at c5 cl
              clear ht
              go_wp2
              go_quiet (fail)
              go_wp2
              go_roundw
              case rel => exact ⟨x + 1, by omega, by go_num, nd + nq, rfl⟩
              case measure => simp [intOf]; omega
            · go_wp2
              go_ret
              exact ⟨rfl, ⟨bel5.os, bel5.tape, bel5.output, bel5.size, bel5.block⟩⟩

/-- What the walk is told of a slice of pairs that came in. -/
def IsPairs (w : World) (a : Option Addr) (len cap : Nat) (zs : List Int) : Prop :=
  (a = none ∧ len = 0) ∨ ∃ x, a = some x ∧ len ≤ cap ∧ cap ≤ maxLen ∧ zs.length = len * 2 ∧ (∀ i, i < len * 2 → w.cell? (x.add i) = some (.int .i32 (zs.getD i 0))) ∧ ∀ n ∈ zs, (Lit.int .i32 n).wf = true

/-- THE WALK, WHOLE. -/
theorem law4_all (n : Int) (a : Option Addr) (len cap : Nat) (zs : List Int) (w : World) (h : IsPairs w a len cap zs) :
    Calls Try.prog 4 #[.int .i64 n, .slice a len cap] w fun e w' => e = .returned (.bool true) ∧ Below w.heap.size w w' := by
  have hlen : len ≤ maxLen := by
    rcases h with ⟨_, rfl⟩ | ⟨_, _, h1, h2, _⟩
    · exact Nat.zero_le _
    · omega
  by_cases he : 4096 < len ∨ n < 0 ∨ 4096 < n
  · exact law4_early a n len cap w hlen he
  · obtain ⟨m, rfl⟩ := Int.eq_ofNat_of_zero_le (show 0 ≤ n by omega)
    rcases Nat.eq_zero_or_pos len with h0 | h0
    · subst h0; exact law4_zero a m cap w (by omega)
    · rcases h with ⟨_, rfl⟩ | ⟨x, rfl, h1, h2, hz, hcell, hwz⟩
      · omega
      · obtain ⟨b, o, s⟩ := x
        have hc0 := hcell 0 (by omega)
        obtain rfl : s = none := by simpa [Addr.add] using World.cell?_spot hc0
        have hplain : ∀ i, (⟨b, o, none⟩ : Addr).add i = ⟨b, o + i, none⟩ := fun i => by unfold Addr.add; split <;> simp_all
        refine law4_main b o m len cap zs w (by omega) (by omega) h0 hz ?_ ?_ ?_
        · rw [hplain] at hc0
          exact block_lt_of_cell hc0
        · intro i hi
          rw [← hplain]; exact hcell i hi
        · intro i hi
          have hi' : i < zs.length := by omega
          have hb := bounds_i32 (hwz zs[i] (List.getElem_mem hi'))
          simp [List.getD, hi']
          omega
#print axioms law4_all
end Go.Proofs.Qxb6612831a.Uf
