/-
  THE CONTRACTS OF grow, Add, ZZindexAdd AND zzAddAll.
-/
import Derived.Test.Qxb6612798aResize
namespace Go.Proofs.Qxb6612798a.Ix
open Go.RowKit

/-- The numbers 1 .. k. -/
def upTo (k m : Nat) : Prop := 1 ≤ m ∧ m ≤ k

/-- A table for k numbers in memory. -/
structure Tab (w : World) (B bx c k p gs gt : Nat) (hs S T : List Nat) : Prop where
  ix : IxAt w bx (some ⟨gs, 0, none⟩) (some ⟨gt, 0, none⟩) p c
  us : URow w gs S
  bs : BRow w gt T
  good : Good (hashOf hs) p (upTo k) S T
  nzs : nz S = k
  hgs : B ≤ gs
  hgt : B ≤ gt

/-- The index at bx holds the numbers 1 .. k. -/
def Holds (w : World) (B bx k : Nat) (hs : List Nat) : Prop := (k = 0 ∧ IxAt w bx none none 0 0) ∨ ∃ p gs gt S T, Sized k p ∧ Tab w B bx k k p gs gt hs S T

theorem Resized.tab {w w' : World} {B bx p c k : Nat} {hs : List Nat} {K : Nat → Prop} (h : Resized w w' bx p c (hashOf hs) K k) (hK : ∀ m, K m → upTo k m) (hB : B ≤ w.heap.size) : ∃ gs gt S T, Tab w' B bx c k p gs gt hs S T := by
  obtain ⟨gs, gt, S, T, h1, h2, h3, h4, h5, h6, h7, _⟩ := h
  exact ⟨gs, gt, S, T, h1, h2, h3, h4.mono hK, h5, by omega, by omega⟩
theorem Resized.keep {w w' : World} {bx p c k : Nat} {H : Nat → Nat} {K : Nat → Prop} (h : Resized w w' bx p c H K k) : Keep (fun k => k = bx) w w' := by
  obtain ⟨gs, gt, S, T, _, _, _, _, _, _, _, h8⟩ := h
  exact h8

set_option maxHeartbeats 1000000 in
theorem grow_nil (bx hb c : Nat) (H : Nat → Nat) (w : World) (hx : IxAt w bx none none 0 c) :
    Calls Try.prog 28 #[.pointer (some ⟨bx, 0, none⟩), .func (.func 25) #[] #[.pointer (some ⟨hb, 0, none⟩)]] w fun e w' => e = .returned (.tuple #[]) ∧ Resized w w' bx 8 c H (fun _ => False) 0 := by
  have c0 := hx.c0
  have hr := resize_nil bx hb 8 c H w hx (by omega)
  go_enter Try.func28, Try.ntmps28
  go_wp2_with (go_at_call 27; refine hr.mono ?_; rintro e w' ⟨rfl, hR⟩)
  go_end0
  exact ⟨rfl, hR⟩

set_option maxHeartbeats 1000000 in
theorem grow_row (bx hb B len cap p0 c g0 : Nat) (sp tp0 : Option Addr) (hs S0 T0 : List Nat) (K : Nat → Prop) (w : World) (hx : IxAt w bx (some ⟨g0, 0, none⟩) tp0 p0 c) (hU : URow w g0 S0)
    (hG : Good (hashOf hs) p0 K S0 T0) (hK : ∀ m, K m → 1 ≤ m ∧ m ≤ len) (hbox : BoxAt w hb sp len cap) (hhs : HsAt w B sp len hs) (hB : B ≤ bx) (hlen : len ≤ 4096)
    (hp : ∃ e, 2 * p0 = 2 ^ e ∧ 3 ≤ e ∧ e ≤ 13) (h8 : 8 ≤ p0) (hp2 : 2 * p0 ≤ 8192) (hnz : nz S0 ≤ p0) (hH : ∀ m, hashOf hs m < 18446744073709551616) :
    Calls Try.prog 28 #[.pointer (some ⟨bx, 0, none⟩), .func (.func 25) #[] #[.pointer (some ⟨hb, 0, none⟩)]] w fun e w' => e = .returned (.tuple #[]) ∧ Resized w w' bx (2 * p0) c (hashOf hs) K (nz S0) := by
  have c0 := hx.c0
  have hr := resize_row bx hb B len cap p0 (2 * p0) c g0 sp tp0 hs S0 T0 K w hx hU hG hK hbox hhs hB hlen hp (by omega) hp2 (by omega) (by omega) hH
  rw [show ((2 * p0 : Nat) : Int) = 2 * (p0 : Int) from by omega] at hr
  have hmx : ¬ (2 * (p0 : Int) < 8) := by omega
  clear hhs hbox hG hK hH hU hp
  go_enter Try.func28, Try.ntmps28
  go_wp2_with (go_at_call 27; refine hr.mono ?_; rintro e w' ⟨rfl, hR⟩)
  go_end0
  exact ⟨rfl, hR⟩

theorem Tab.lenS {w : World} {B bx c k p gs gt : Nat} {hs S T : List Nat} (h : Tab w B bx c k p gs gt hs S T) : S.length = p := h.good.lenS

theorem Tab.drewN {w : World} {B bx c k p gs gt : Nat} {hs S T : List Nat} (h : Tab w B bx c k p gs gt hs S T) (nq : Nat) : Tab (w.drewN nq) B bx c k p gs gt hs S T := ⟨h.ix, h.us, h.bs, h.good, h.nzs, h.hgs, h.hgt⟩
theorem below_drewN {B : Nat} {a w : World} (h : Below B a w) (nq : Nat) : Below B a (w.drewN nq) := ⟨h.os, h.tape, h.output, h.size, h.block⟩
theorem hide {p : Prop} (h : p) : Hid p := h
theorem unhide {p : Prop} (h : Hid p) : p := h

/-- One number more has been put, and the count raised. -/
theorem Tab.add {w1 w2 : World} {B bx k p gs gt : Nat} {hs S T : List Nat} (h : Tab w1 B bx k k p gs gt hs S T) (hp : 0 < p) {n hv j d : Nat} (hn : n = k + 1) (hhv : hv = hashOf hs n)
    (hj : j = (hv + d) % p) (hd : d < p) (hfree : S.getD j 0 = 0) (hpath : Path S p hv d)
    (hU : URow w2 gs (S.set j n)) (hT : BRow w2 gt (T.set j (tagN hv))) (hbut : But (fun k => k = gs ∨ k = gt) w1 w2) :
    Tab (w2.setCell ⟨bx, 2, none⟩ (.int .i64 ((k : Int) + 1))) B bx (k + 1) (k + 1) p gs gt hs (S.set j n) (T.set j (tagN hv)) := by
  subst hhv
  subst hn
  have n1 := ne_xu h.ix h.us
  have n2 := ne_xb h.ix h.bs
  have hjS : j < S.length := by rw [h.good.lenS, hj]; exact Nat.mod_lt _ hp
  have hx2 : IxAt w2 bx (some ⟨gs, 0, none⟩) (some ⟨gt, 0, none⟩) p k := by
    show _ = _
    rw [hbut.block bx (by rintro (e | e) <;> omega)]; exact h.ix.out
  refine ⟨?_, hU.other _ _ n1.symm, hT.other _ _ n2.symm, (h.good.put (by omega) (by rintro ⟨_, h2⟩; omega) hp hj hd hfree hpath).mono ?_, ?_, h.hgs, h.hgt⟩
  · show _ = _
    simp [World.setCell, Array.getElem?_modify, hx2.out]
  · rintro m (⟨h1, h2⟩ | rfl)
    · exact ⟨h1, by omega⟩
    · exact ⟨by omega, Nat.le_refl _⟩
  · rw [nz_set S j _ hjS hfree (by omega), h.nzs]

theorem IxAt.but {w1 w2 : World} {B bx k p gs gt : Nat} {hs S T : List Nat} (h : Tab w1 B bx k k p gs gt hs S T) (hbut : But (fun k => k = gs ∨ k = gt) w1 w2) : IxAt w2 bx (some ⟨gs, 0, none⟩) (some ⟨gt, 0, none⟩) p k := by
  have n1 := ne_xu h.ix h.us
  have n2 := ne_xb h.ix h.bs
  show _ = _
  rw [hbut.block bx (by rintro (e | e) <;> omega)]; exact h.ix.out

theorem below_add {w w1 w2 : World} {B bx k p gs gt : Nat} {hs S T : List Nat} (h : Tab w1 B bx k k p gs gt hs S T) (hbut : But (fun k => k = gs ∨ k = gt) w1 w2) (hb : Below B w w1) (hB : B ≤ w.heap.size) (hbx : B ≤ bx) (v : Value) :
    Below B w (w2.setCell ⟨bx, 2, none⟩ v) :=
  (hb.trans (hbut.keep.below (B := B) (by have := hb.size; omega) (by rintro i hi (e | e) <;> have := h.hgs <;> have := h.hgt <;> omega))).setCell (p := ⟨bx, 2, none⟩) hbx v

set_option maxHeartbeats 2000000 in
/-- 'Add' where there is room. -/
theorem add_room (bx hb B k p gs gt : Nat) (hs S T : List Nat) (n hv : Nat) (w : World) (h : Tab w B bx k k p gs gt hs S T) (hsz : Sized k p) (hroom : 4 * (k + 1) ≤ 3 * p) (hB : B ≤ w.heap.size) (hbx : B ≤ bx)
    (hn : Hid (n = k + 1)) (hhv : Hid (hv = hashOf hs n)) (hH : hv < 18446744073709551616) (hk : k < 4096) :
    Calls Try.prog 24 #[.pointer (some ⟨bx, 0, none⟩), .int .u32 n, .int .u64 hv, .func (.func 25) #[] #[.pointer (some ⟨hb, 0, none⟩)]] w fun e w' => e = .returned (.tuple #[]) ∧ Holds w' B bx (k + 1) hs ∧ Below B w w' := by
  have c0 := h.ix.c0
  have c2 := h.ix.c2
  have hle := hsz.le
  have hput := fun nq => put29 bx gs gt p k S T n hv (w.drewN nq) h.ix h.us h.bs h.good.lenS h.good.lenT hsz.1 hle.1 hle.2 (by rw [h.nzs]; omega) hH
  have HPUT := hide hput
  clear hput
  have HSZ := hide (hsz.stay hroom)
  clear hsz
  obtain ⟨h8, hp2⟩ := hle
  have hcmp : decide (3 * (p : Int) < 4 * ((k : Int) + 1)) = false := by simp; omega
  go_enter Try.func24, Try.ntmps24
  go_wp2
  go_quiet (fail)
  go_wp2_with (go_at_call 29; refine ((unhide HPUT) _).mono ?_; rintro e w2 ⟨rfl, j, d, hj, hd, hfree, hpath, hU1, hB1, hbut⟩; have hx2 := IxAt.but (h.drewN nq) hbut; have d2 := hx2.c2; have f2 := hx2.free 2; have HJ := hide (And.intro hj (And.intro hd hfree)); clear hj hd hfree)
  go_end0
  obtain ⟨hj, hd, hfree⟩ := unhide HJ
  exact ⟨rfl, .inr ⟨p, gs, gt, _, _, unhide HSZ, (h.drewN nq).add (by omega) hn.out hhv.out hj hd hfree hpath hU1 hB1 hbut⟩, below_add (h.drewN nq) hbut (below_drewN (Below.refl _ _) nq) hB hbx _⟩

theorem upTo_zero (m : Nat) (h : False) : upTo 0 m := h.elim

theorem put_tab {w : World} {B bx k p gs gt : Nat} {hs S T : List Nat} (h : Tab w B bx k k p gs gt hs S T) (hp : ∃ e, p = 2 ^ e ∧ 3 ≤ e ∧ e ≤ 13) (h8 : 8 ≤ p) (hp2 : p ≤ 8192) (hk : k < p) (n hv : Nat) (hH : hv < 18446744073709551616) :
    Calls Try.prog 29 #[.pointer (some ⟨bx, 0, none⟩), .int .u32 n, .int .u64 hv] w fun e w' => e = .returned (.tuple #[]) ∧ ∃ j d, j = (hv + d) % p ∧ d < p ∧ S.getD j 0 = 0 ∧ Path S p hv d ∧
      URow w' gs (S.set j n) ∧ BRow w' gt (T.set j (tagN hv)) ∧ But (fun k => k = gs ∨ k = gt) w w' :=
  put29 bx gs gt p k S T n hv w h.ix h.us h.bs h.good.lenS h.good.lenT hp h8 hp2 (by rw [h.nzs]; omega) hH

theorem below_grow {w w1 : World} {B bx p c k : Nat} {H : Nat → Nat} {K : Nat → Prop} (h : Resized w w1 bx p c H K k) (hB : B ≤ w.heap.size) (hbx : B ≤ bx) : Below B w w1 :=
  h.keep.below hB (by intro i hi e; omega)

set_option maxHeartbeats 2000000 in
/-- 'Add' at the empty index. -/
theorem add_first (bx hb B : Nat) (hs : List Nat) (n hv : Nat) (w : World) (hx : IxAt w bx none none 0 0) (hB : B ≤ w.heap.size) (hbx : B ≤ bx)
    (hn : Hid (n = 0 + 1)) (hhv : Hid (hv = hashOf hs n)) (hH : hv < 18446744073709551616) :
    Calls Try.prog 24 #[.pointer (some ⟨bx, 0, none⟩), .int .u32 n, .int .u64 hv, .func (.func 25) #[] #[.pointer (some ⟨hb, 0, none⟩)]] w fun e w' => e = .returned (.tuple #[]) ∧ Holds w' B bx (0 + 1) hs ∧ Below B w w' := by
  have c0 := hx.c0
  have c2 : w.cell? ⟨bx, 2, none⟩ = some (.int .i64 0) := hx.c2
  have HG := hide (fun nq => grow_nil bx hb 0 (hashOf hs) (w.drewN nq) hx)
  have hB' : ∀ nq, B ≤ (w.drewN nq).heap.size := fun _ => hB
  have HB' := hide hB'
  clear hB'
  go_enter Try.func24, Try.ntmps24
  go_wp2
  go_quiet (fail)
  go_wp2_with (first
    | (go_at_call 28; refine ((unhide HG) _).mono ?_; rintro e w1 ⟨rfl, hR⟩; obtain ⟨gs, gt, S, T, ht⟩ := hR.tab upTo_zero (unhide HB' nq))
    | (go_at_call 29; refine (put_tab ht ⟨3, rfl, by omega, by omega⟩ (by omega) (by omega) (by omega) n hv hH).mono ?_; rintro e w2 ⟨rfl, j, d, hj, hd, hfree, hpath, hU1, hB1, hbut⟩; have hx2 := IxAt.but ht hbut; have d2 : w2.cell? ⟨bx, 2, none⟩ = some (.int .i64 0) := hx2.c2; have f2 := hx2.free 2; have HJ := hide (And.intro hj (And.intro hd hfree)); clear hj hd hfree))
  go_end0
  obtain ⟨hj, hd, hfree⟩ := unhide HJ
  have hT := ht.add (by omega) hn.out hhv.out hj hd hfree hpath hU1 hB1 hbut
  exact ⟨rfl, .inr ⟨8, gs, gt, _, _, Sized.first, hT⟩, below_add ht hbut ((below_drewN (Below.refl _ _) nq).trans (below_grow hR hB hbx)) hB hbx _⟩

set_option maxHeartbeats 2000000 in
/-- 'Add' where the table grows. -/
theorem add_grow (bx hb B len cap k p gs gt : Nat) (sp : Option Addr) (hs S T : List Nat) (n hv : Nat) (w : World) (h : Tab w B bx k k p gs gt hs S T) (hsz : Sized k p) (hroom : 3 * p < 4 * (k + 1)) (hB : B ≤ w.heap.size) (hbx : B ≤ bx)
    (hbox : BoxAt w hb sp len cap) (hhs : HsAt w B sp len hs) (hlen : len ≤ 4096) (hkl : k ≤ len)
    (hn : Hid (n = k + 1)) (hhv : Hid (hv = hashOf hs n)) (hH : hv < 18446744073709551616) (hHH : ∀ m, hashOf hs m < 18446744073709551616) (hk : k < 4096) :
    Calls Try.prog 24 #[.pointer (some ⟨bx, 0, none⟩), .int .u32 n, .int .u64 hv, .func (.func 25) #[] #[.pointer (some ⟨hb, 0, none⟩)]] w fun e w' => e = .returned (.tuple #[]) ∧ Holds w' B bx (k + 1) hs ∧ Below B w w' := by
  have c0 := h.ix.c0
  have c2 := h.ix.c2
  have hdbl := hsz.double hroom hk
  have hle := hsz.le
  have hle2 := hdbl.le
  have HG := hide (fun nq => grow_row bx hb B len cap p k gs sp _ hs S T (upTo k) (w.drewN nq) h.ix h.us h.good (fun m hm => ⟨hm.1, by have := hm.2; omega⟩) hbox hhs hbx hlen hdbl.1 hle.1 hle2.2 (by rw [h.nzs]; have := hsz.2.1; omega) hHH)
  rw [h.nzs] at HG
  have HB' : Hid (∀ nq, B ≤ (w.drewN nq).heap.size) := fun _ => hB
  have HSZ := hide hdbl
  have hkp : k < 2 * p := by have := hsz.2.1; omega
  clear hsz hdbl hbox hhs hHH
  obtain ⟨h8, hp2⟩ := hle
  have hcmp : decide (3 * (p : Int) < 4 * ((k : Int) + 1)) = true := by simp; omega
  go_enter Try.func24, Try.ntmps24
  go_wp2
  go_quiet (fail)
  go_wp2_with (first
    | (go_at_call 28; refine ((unhide HG) _).mono ?_; rintro e w1 ⟨rfl, hR⟩; obtain ⟨gs', gt', S', T', ht⟩ := hR.tab (fun _ hm => hm) (unhide HB' nq))
    | (go_at_call 29; refine (put_tab ht (unhide HSZ).1 (by omega) hle2.2 hkp n hv hH).mono ?_; rintro e w2 ⟨rfl, j, d, hj, hd, hfree, hpath, hU1, hB1, hbut⟩; have hx2 := IxAt.but ht hbut; have d2 := hx2.c2; have f2 := hx2.free 2; have HJ := hide (And.intro hj (And.intro hd hfree)); clear hj hd hfree))
  go_end0
  obtain ⟨hj, hd, hfree⟩ := unhide HJ
  have hT := ht.add (by omega) hn.out hhv.out hj hd hfree hpath hU1 hB1 hbut
  exact ⟨rfl, .inr ⟨2 * p, gs', gt', _, _, unhide HSZ, hT⟩, below_add ht hbut ((below_drewN (Below.refl _ _) nq).trans (below_grow hR hB hbx)) hB hbx _⟩

/-- 'Add', whatever the state. -/
theorem add24 (bx hb B len cap k : Nat) (sp : Option Addr) (hs : List Nat) (n hv : Nat) (w : World) (h : Holds w B bx k hs) (hB : B ≤ w.heap.size) (hbx : B ≤ bx)
    (hbox : BoxAt w hb sp len cap) (hhs : HsAt w B sp len hs) (hlen : len ≤ 4096) (hkl : k < len)
    (hn : Hid (n = k + 1)) (hhv : Hid (hv = hashOf hs n)) (hHH : ∀ m, hashOf hs m < 18446744073709551616) :
    Calls Try.prog 24 #[.pointer (some ⟨bx, 0, none⟩), .int .u32 n, .int .u64 hv, .func (.func 25) #[] #[.pointer (some ⟨hb, 0, none⟩)]] w fun e w' => e = .returned (.tuple #[]) ∧ Holds w' B bx (k + 1) hs ∧ Below B w w' := by
  have hH : hv < 18446744073709551616 := by rw [hhv.out]; exact hHH n
  rcases h with ⟨rfl, hx⟩ | ⟨p, gs, gt, S, T, hsz, ht⟩
  · exact add_first bx hb B hs n hv w hx hB hbx hn hhv hH
  · rcases Nat.lt_or_ge (3 * p) (4 * (k + 1)) with h1 | h1
    · exact add_grow bx hb B len cap k p gs gt sp hs S T n hv w ht hsz h1 hB hbx hbox hhs hlen (by omega) hn hhv hH hHH (by omega)
    · exact add_room bx hb B k p gs gt hs S T n hv w ht hsz h1 hB hbx hn hhv hH (by omega)
end Go.Proofs.Qxb6612798a.Ix
