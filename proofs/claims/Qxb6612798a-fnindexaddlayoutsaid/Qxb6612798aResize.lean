/-
  THE CONTRACTS OF the hash closure AND resize.
-/
import Derived.Test.Qxb6612798aPut
import Derived.WalkSpells
namespace Go.Proofs.Qxb6612798a.Ix
open Go.RowKit

/-- The hashes hs lie in a slice at sp, below block B. -/
def HsAt (w : World) (B : Nat) (sp : Option Addr) (len : Nat) (hs : List Nat) : Prop :=
  0 < len → ∃ b o, sp = some ⟨b, o, none⟩ ∧ b < B ∧ ∀ i, i < len → w.cell? ⟨b, o + i, none⟩ = some (.int .u64 (hs.getD i 0 : Nat))
/-- Block hb is the closure's captured variable. -/
def BoxAt (w : World) (hb : Nat) (sp : Option Addr) (len cap : Nat) : Prop := w.heap[hb]? = some (.cells #[.slice sp len cap] 22 (0, 0))
theorem BoxAt.out {w : World} {hb : Nat} {sp : Option Addr} {len cap : Nat} (h : BoxAt w hb sp len cap) : w.heap[hb]? = some (.cells #[.slice sp len cap] 22 (0, 0)) := h
theorem BoxAt.cell {w : World} {hb : Nat} {sp : Option Addr} {len cap : Nat} (h : BoxAt w hb sp len cap) : w.cell? ⟨hb, 0, none⟩ = some (.slice sp len cap) := by simp [World.cell?, h.out]

/-- The hash of number m's key. -/
def hashOf (hs : List Nat) (m : Nat) : Nat := hs.getD (m - 1) 0

/-- w' is w in its old blocks but for those that 'M' names. -/
structure Keep (M : Nat → Prop) (w w' : World) : Prop where
  os : w'.os = w.os
  tape : w'.tape = w.tape
  output : w'.output = w.output
  size : w.heap.size ≤ w'.heap.size
  block : ∀ k, k < w.heap.size → ¬ M k → w'.heap[k]? = w.heap[k]?

theorem Keep.refl (M : Nat → Prop) (w : World) : Keep M w w := ⟨rfl, rfl, rfl, Nat.le_refl _, fun _ _ _ => rfl⟩
theorem Keep.trans {M M' : Nat → Prop} {a b c : World} (h : Keep M a b) (k : Keep M' b c) (hm : ∀ i, i < a.heap.size → M' i → M i) : Keep M a c :=
  ⟨k.os.trans h.os, k.tape.trans h.tape, k.output.trans h.output, Nat.le_trans h.size k.size, fun i hi hn => (k.block i (Nat.lt_of_lt_of_le hi h.size) (fun e => hn (hm i hi e))).trans (h.block i hi hn)⟩
theorem But.keep {M : Nat → Prop} {w w' : World} (h : But M w w') : Keep M w w' := ⟨h.os, h.tape, h.output, Nat.le_of_eq h.size.symm, fun k _ hk => h.block k hk⟩
theorem Keep.below {M : Nat → Prop} {w w' : World} (h : Keep M w w') {B : Nat} (hB : B ≤ w.heap.size) (hM : ∀ k, k < B → ¬ M k) : Below B w w' :=
  ⟨h.os, h.tape, h.output, h.size, fun k hk => h.block k (by omega) (hM k hk)⟩

theorem HsAt.below {w w' : World} {B : Nat} {sp : Option Addr} {len : Nat} {hs : List Nat} (h : HsAt w B sp len hs) (hb : Below B w w') : HsAt w' B sp len hs := fun hl => by
  obtain ⟨b, o, e, hB, hc⟩ := h hl
  exact ⟨b, o, e, hB, fun i hi => by rw [hb.cell (p := ⟨b, o + i, none⟩) hB]; exact hc i hi⟩

set_option maxHeartbeats 400000 in
theorem clos25 (hb B len cap : Nat) (sp : Option Addr) (hs : List Nat) (m : Nat) (w : World) (hbox : BoxAt w hb sp len cap) (hhs : HsAt w B sp len hs) (h1 : 1 ≤ m) (h2 : m ≤ len) (h3 : len ≤ 4096) :
    Calls Try.prog 25 #[.int .u32 m, .pointer (some ⟨hb, 0, none⟩)] w fun e w' => e = .returned (.int .u64 (hashOf hs m : Nat)) ∧ w = w' := by
  obtain ⟨b, o, rfl, _, hc⟩ := hhs (by omega)
  have c0 := hbox.cell
  obtain ⟨j, rfl⟩ : ∃ j, m = j + 1 := ⟨m - 1, by omega⟩
  have c1 := hc j (by omega)
  obtain ⟨v, hv⟩ : ∃ v, v = hs.getD j 0 := ⟨_, rfl⟩
  rw [← hv] at c1
  have HV : Hid (v = hs.getD j 0) := hv
  clear hc hv hbox hhs
  go_enter Try.func25, Try.ntmps25
  go_wp2
  go_ret
  exact ⟨ret_int (by rw [HV.out]; simp [hashOf]), rfl⟩

theorem info23 : (Try.prog.info? 23).map (fun i => (i.zero, i.size, i.bytes)) = some (some (.int .u32 0), 1, 4) := by kernel_rfl
theorem info5 : (Try.prog.info? 5).map (fun i => (i.zero, i.size, i.bytes)) = some (some (.int .u8 0), 1, 1) := by kernel_rfl

theorem make27 (p : Nat) (hp : p ≤ 8192) : ∃ Z : Array Value, Hid (Z = ((List.replicate p 0).map fun (s : Nat) => Value.int .u32 (s : Int)).toArray) ∧
    ∀ w, (Instr.makeSlice 27 (.int .i64 p) (.int .i64 p)).run Try.prog w = .ok (.slice (some ⟨w.heap.size, 0, none⟩) p p) (w.alloc (.cells Z 23)) := by
  obtain ⟨i, hi, hz0, hz1, hz2⟩ := info_parts info23
  refine ⟨_, rfl, fun w => ?_⟩
  rw [run_make (P := Try.prog) w 27 23 i (.int .u32 0) Try.underlying27 hi hz0 .i64 .i64 p p (by omega) (by omega) (by rw [hz2]; omega) (by omega), hz1]
  simp only [Int.toNat_natCast, Nat.mul_one]
  congr 3
  apply Array.ext
  · simp [size_madeCells]
  · intro i h1 h2
    simp [madeCells, Value.cells, Nat.mod_one]

theorem make28 (p : Nat) (hp : p ≤ 8192) : ∃ Z : Array Value, Hid (Z = ((List.replicate p 0).map fun (s : Nat) => Value.int .u8 (s : Int)).toArray) ∧
    ∀ w, (Instr.makeSlice 28 (.int .i64 p) (.int .i64 p)).run Try.prog w = .ok (.slice (some ⟨w.heap.size, 0, none⟩) p p) (w.alloc (.cells Z 5)) := by
  obtain ⟨i, hi, hz0, hz1, hz2⟩ := info_parts info5
  refine ⟨_, rfl, fun w => ?_⟩
  rw [run_make (P := Try.prog) w 28 5 i (.int .u8 0) Try.underlying28 hi hz0 .i64 .i64 p p (by omega) (by omega) (by rw [hz2]; omega) (by omega), hz1]
  simp only [Int.toNat_natCast, Nat.mul_one]
  congr 3
  apply Array.ext
  · simp [size_madeCells]
  · intro i h1 h2
    simp [madeCells, Value.cells, Nat.mod_one]

theorem cell_past (w : World) (a : Addr) (o : Obj) (h : a.block < w.heap.size) : (w.alloc o).cell? a = w.cell? a := World.cell?_of_block (Below.heap_alloc w o a.block h)
theorem frozen_past (w : World) (a : Addr) (o : Obj) (h : a.block < w.heap.size) : (w.alloc o).frozen? a = w.frozen? a := World.frozen?_of_block (Below.heap_alloc w o a.block h)

theorem IxAt.past0 {w : World} {bx : Nat} {sp tp : Option Addr} {p n : Nat} (h : IxAt w bx sp tp p n) (o1 o2 : Obj) : ((w.alloc o1).alloc o2).cell? ⟨bx, 0, none⟩ = some (.slice sp p p) := by
  have := h.lt
  rw [cell_past _ _ _ (by simp; omega), cell_past _ _ _ (by simpa using this)]; exact h.c0
theorem IxAt.past1 {w : World} {bx : Nat} {sp tp : Option Addr} {p n : Nat} (h : IxAt w bx sp tp p n) (o1 o2 : Obj) : ((w.alloc o1).alloc o2).cell? ⟨bx, 1, none⟩ = some (.slice tp p p) := by
  have := h.lt
  rw [cell_past _ _ _ (by simp; omega), cell_past _ _ _ (by simpa using this)]; exact h.c1
theorem IxAt.pastf {w : World} {bx : Nat} {sp tp : Option Addr} {p n : Nat} (h : IxAt w bx sp tp p n) (i : Nat) (o1 o2 : Obj) : ((w.alloc o1).alloc o2).frozen? ⟨bx, i, none⟩ = false := by
  have := h.lt
  rw [frozen_past _ _ _ (by simp; omega), frozen_past _ _ _ (by simpa using this)]; exact h.free i
theorem IxAt.set0 {w : World} {bx : Nat} {sp tp : Option Addr} {p n : Nat} (h : IxAt w bx sp tp p n) (v : Value) : (w.setCell ⟨bx, 0, none⟩ v).heap[bx]? = some (.cells #[v, .slice tp p p, .int .i64 n] 30 (0, 0)) := by
  simp [World.setCell, Array.getElem?_modify, h.out]
theorem IxAt.stored1 {w : World} {bx : Nat} {sp tp : Option Addr} {p n : Nat} (h : IxAt w bx sp tp p n) (v : Value) (o1 o2 : Obj) : (((w.setCell ⟨bx, 0, none⟩ v).alloc o1).alloc o2).cell? ⟨bx, 1, none⟩ = some (.slice tp p p) := by
  have := h.lt
  rw [cell_past _ _ _ (by simp; omega), cell_past _ _ _ (by simpa using this)]
  simp [World.cell?, h.set0 v]
theorem IxAt.storedf {w : World} {bx : Nat} {sp tp : Option Addr} {p n : Nat} (h : IxAt w bx sp tp p n) (v : Value) (i : Nat) (o1 o2 : Obj) : (((w.setCell ⟨bx, 0, none⟩ v).alloc o1).alloc o2).frozen? ⟨bx, i, none⟩ = false := by
  have := h.lt
  rw [frozen_past _ _ _ (by simp; omega), frozen_past _ _ _ (by simpa using this)]
  simp [World.frozen?, h.set0 v]

/-- Where the numbers of the first i old slots have been moved. -/
structure Mid (w wr : World) (bx p c : Nat) (H : Nat → Nat) (S0 : List Nat) (i gs gt : Nat) (S T : List Nat) : Prop where
  ix : IxAt wr bx (some ⟨gs, 0, none⟩) (some ⟨gt, 0, none⟩) p c
  us : URow wr gs S
  bs : BRow wr gt T
  good : Good H p (Moved S0 i) S T
  nzs : nz S = nz (S0.take i)
  hgs : w.heap.size ≤ gs
  hgt : w.heap.size ≤ gt
  keep : Keep (fun k => k = bx) w wr

theorem IxAt.set01 {w : World} {bx : Nat} {sp tp : Option Addr} {p0 n : Nat} (h : IxAt w bx sp tp p0 n) (sp' tp' : Option Addr) (p : Nat) (o1 o2 : Obj) :
    IxAt ((((w.setCell ⟨bx, 0, none⟩ (.slice sp' p p)).setCell ⟨bx, 1, none⟩ (.slice tp' p p)).alloc o1).alloc o2).drew bx sp' tp' p n := by
  have hlt := h.lt
  show ((((w.setCell ⟨bx, 0, none⟩ (.slice sp' p p)).setCell ⟨bx, 1, none⟩ (.slice tp' p p)).alloc o1).alloc o2).heap[bx]? = _
  rw [Below.heap_alloc _ _ _ (by simp; omega), Below.heap_alloc _ _ _ (by simpa using hlt)]
  simp [World.setCell, Array.getElem?_modify, h.out]
theorem keep01 (w : World) (bx : Nat) (u v : Value) (o1 o2 : Obj) : Keep (fun k => k = bx) w ((((w.setCell ⟨bx, 0, none⟩ u).setCell ⟨bx, 1, none⟩ v).alloc o1).alloc o2).drew :=
  ⟨rfl, rfl, rfl, by simp; omega, fun k hk hn => by
    show ((((w.setCell ⟨bx, 0, none⟩ u).setCell ⟨bx, 1, none⟩ v).alloc o1).alloc o2).heap[k]? = _
    rw [Below.heap_alloc _ _ _ (by simp; omega), Below.heap_alloc _ _ _ (by simpa using hk), Below.heap_setCell _ _ _ _ hn, Below.heap_setCell _ _ _ _ hn]⟩
theorem first_new (w : World) (o1 o2 : Obj) : ((w.alloc o1).alloc o2).drew.heap[w.heap.size]? = some o1 := by
  show ((w.heap.push o1).push o2)[w.heap.size]? = _
  simp [Array.getElem?_push]
theorem second_new (w : World) (o1 o2 : Obj) : ((w.alloc o1).alloc o2).drew.heap[w.heap.size + 1]? = some o2 := by
  show ((w.heap.push o1).push o2)[w.heap.size + 1]? = _
  rw [Array.getElem?_push]; simp

theorem mid_start1 {w : World} {bx p p0 c : Nat} {sp0 tp0 : Option Addr} {H : Nat → Nat} {S0 : List Nat} {Z Y : Array Value} (hx : IxAt w bx sp0 tp0 p0 c)
    (hZ : Hid (Z = ((List.replicate p 0).map fun (s : Nat) => Value.int .u32 (s : Int)).toArray)) (hY : Hid (Y = ((List.replicate p 0).map fun (s : Nat) => Value.int .u8 (s : Int)).toArray)) :
    Mid w ((((w.setCell ⟨bx, 0, none⟩ (.slice (some ⟨w.heap.size, 0, none⟩) p p)).setCell ⟨bx, 1, none⟩ (.slice (some ⟨w.heap.size + 1, 0, none⟩) p p)).alloc (.cells Z 23)).alloc (.cells Y 5)).drew bx p c H S0 0 w.heap.size (w.heap.size + 1) (List.replicate p 0) (List.replicate p 0) := by
  refine ⟨hx.set01 _ _ p _ _, ?_, ?_, (Good.empty H p).mono (fun m h => h.elim), ?_, Nat.le_refl _, Nat.le_succ _, keep01 _ _ _ _ _ _⟩
  · have := first_new ((w.setCell ⟨bx, 0, none⟩ (.slice (some ⟨w.heap.size, 0, none⟩) p p)).setCell ⟨bx, 1, none⟩ (.slice (some ⟨w.heap.size + 1, 0, none⟩) p p)) (.cells Z 23) (.cells Y 5)
    simp only [World.size_setCell] at this
    show _ = _
    rw [this, hZ.out]
  · have := second_new ((w.setCell ⟨bx, 0, none⟩ (.slice (some ⟨w.heap.size, 0, none⟩) p p)).setCell ⟨bx, 1, none⟩ (.slice (some ⟨w.heap.size + 1, 0, none⟩) p p)) (.cells Z 23) (.cells Y 5)
    simp only [World.size_setCell] at this
    show _ = _
    rw [this, hY.out]
  · rw [nz_replicate]; simp [nz]
theorem mid_start2 {w : World} {bx p p0 c : Nat} {sp0 tp0 : Option Addr} {H : Nat → Nat} {S0 : List Nat} {Z Y : Array Value} (hx : IxAt w bx sp0 tp0 p0 c)
    (hZ : Hid (Z = ((List.replicate p 0).map fun (s : Nat) => Value.int .u32 (s : Int)).toArray)) (hY : Hid (Y = ((List.replicate p 0).map fun (s : Nat) => Value.int .u8 (s : Int)).toArray)) :
    Mid w ((((w.setCell ⟨bx, 0, none⟩ (.slice (some ⟨w.heap.size + 1, 0, none⟩) p p)).setCell ⟨bx, 1, none⟩ (.slice (some ⟨w.heap.size, 0, none⟩) p p)).alloc (.cells Y 5)).alloc (.cells Z 23)).drew bx p c H S0 0 (w.heap.size + 1) w.heap.size (List.replicate p 0) (List.replicate p 0) := by
  refine ⟨hx.set01 _ _ p _ _, ?_, ?_, (Good.empty H p).mono (fun m h => h.elim), ?_, Nat.le_succ _, Nat.le_refl _, keep01 _ _ _ _ _ _⟩
  · have := second_new ((w.setCell ⟨bx, 0, none⟩ (.slice (some ⟨w.heap.size + 1, 0, none⟩) p p)).setCell ⟨bx, 1, none⟩ (.slice (some ⟨w.heap.size, 0, none⟩) p p)) (.cells Y 5) (.cells Z 23)
    simp only [World.size_setCell] at this
    show _ = _
    rw [this, hZ.out]
  · have := first_new ((w.setCell ⟨bx, 0, none⟩ (.slice (some ⟨w.heap.size + 1, 0, none⟩) p p)).setCell ⟨bx, 1, none⟩ (.slice (some ⟨w.heap.size, 0, none⟩) p p)) (.cells Y 5) (.cells Z 23)
    simp only [World.size_setCell] at this
    show _ = _
    rw [this, hY.out]
  · rw [nz_replicate]; simp [nz]

/-- What resize leaves. -/
def Resized (w w' : World) (bx p c : Nat) (H : Nat → Nat) (K : Nat → Prop) (k : Nat) : Prop :=
  ∃ gs gt S T, IxAt w' bx (some ⟨gs, 0, none⟩) (some ⟨gt, 0, none⟩) p c ∧ URow w' gs S ∧ BRow w' gt T ∧ Good H p K S T ∧ nz S = k ∧ w.heap.size ≤ gs ∧ w.heap.size ≤ gt ∧ Keep (fun k => k = bx) w w'

theorem resized_of {w wr : World} {bx p c : Nat} {H : Nat → Nat} {gs gt : Nat} {S T : List Nat} (h : Mid w wr bx p c H [] 0 gs gt S T) : Resized w wr bx p c H (fun _ => False) 0 :=
  ⟨gs, gt, S, T, h.ix, h.us, h.bs, h.good.mono (by rintro m ⟨_, i, hi, _⟩; omega), by rw [h.nzs]; rfl, h.hgs, h.hgt, h.keep⟩

set_option maxHeartbeats 1000000 in
theorem resize_nil (bx hb p c : Nat) (H : Nat → Nat) (w : World) (hx : IxAt w bx none none 0 c) (hp : p ≤ 8192) :
    Calls Try.prog 27 #[.pointer (some ⟨bx, 0, none⟩), .int .i64 p, .func (.func 25) #[] #[.pointer (some ⟨hb, 0, none⟩)]] w fun e w' => e = .returned (.tuple #[]) ∧ Resized w w' bx p c H (fun _ => False) 0 := by
  have c0 := hx.c0
  have hlt := hx.lt
  have c1 := hx.c1
  have f0 := hx.free 0
  have f1 := hx.free 1
  have q0 := fun o1 o2 => hx.past0 o1 o2
  have q1 := fun o1 o2 => hx.past1 o1 o2
  have qf := fun i o1 o2 => hx.pastf i o1 o2
  have r1 := fun v o1 o2 => hx.stored1 v o1 o2
  have rf := fun v i o1 o2 => hx.storedf v i o1 o2
  obtain ⟨Z, hZ, mk27⟩ := make27 p hp
  obtain ⟨Y, hY, mk28⟩ := make28 p hp
  go_enter Try.func27, Try.ntmps27
  go_wp2
  go_region
  all_goals
    go_wp2
    refine wp_loop_rounds 1 ?_
    rw [rounds_succ]
    go_wp2
    go_end0
    refine ⟨rfl, ?_⟩
    first
      | with_reducible exact resized_of (mid_start1 (H := H) (S0 := []) hx hZ hY)
      | with_reducible exact resized_of (mid_start2 (H := H) (S0 := []) hx hZ hY)

theorem Mid.oldRow {w wr : World} {bx p c : Nat} {H : Nat → Nat} {S0 : List Nat} {i gs gt : Nat} {S T : List Nat} (h : Mid w wr bx p c H S0 i gs gt S T) {g : Nat} (hU : URow w g S0) (hne : g ≠ bx) : URow wr g S0 := by
  show _ = _
  rw [h.keep.block g hU.lt hne]; exact hU.out
theorem Mid.oldBox {w wr : World} {bx p c : Nat} {H : Nat → Nat} {S0 : List Nat} {i gs gt : Nat} {S T : List Nat} (h : Mid w wr bx p c H S0 i gs gt S T) {hb : Nat} {sp : Option Addr} {len cap : Nat} (hB : BoxAt w hb sp len cap) (hne : hb ≠ bx) : BoxAt wr hb sp len cap := by
  show _ = _
  rw [h.keep.block hb (Array.getElem?_eq_some_iff.1 hB.out).1 hne]; exact hB.out

/-- One number has been moved. -/
theorem Mid.moved {w wr w1 : World} {bx p0 p c : Nat} {H : Nat → Nat} {K : Nat → Prop} {S0 T0 : List Nat} {i gs gt : Nat} {S T : List Nat} (h : Mid w wr bx p c H S0 i gs gt S T) (g0 : Good H p0 K S0 T0) (hi : i < p0) (hn : S0.getD i 0 ≠ 0) (hp : 0 < p)
    {j d : Nat} (hj : j = (H (S0.getD i 0) + d) % p) (hd : d < p) (hfree : S.getD j 0 = 0) (hpath : Path S p (H (S0.getD i 0)) d)
    (hU : URow w1 gs (S.set j (S0.getD i 0))) (hB : BRow w1 gt (T.set j (tagN (H (S0.getD i 0))))) (hbut : But (fun k => k = gs ∨ k = gt) wr w1) (hbx : bx < w.heap.size) :
    Mid w w1 bx p c H S0 (i + 1) gs gt (S.set j (S0.getD i 0)) (T.set j (tagN (H (S0.getD i 0)))) := by
  have e1 := h.hgs
  have e2 := h.hgt
  have hjS : j < S.length := by rw [h.good.lenS, hj]; exact Nat.mod_lt _ hp
  refine ⟨?_, hU, hB, (h.good.put hn (not_moved g0 hi hn) hp hj hd hfree hpath).mono (moved_succ hn), ?_, e1, e2, h.keep.trans hbut.keep (by rintro k hk (rfl | rfl) <;> omega)⟩
  · show _ = _
    rw [hbut.block bx (by rintro (rfl | rfl) <;> omega)]; exact h.ix.out
  · rw [nz_set S j _ hjS hfree hn, h.nzs, nz_take_succ S0 i (by rw [g0.lenS]; exact hi), if_neg hn]

theorem Mid.skipped {w wr : World} {bx p0 p c : Nat} {H : Nat → Nat} {K : Nat → Prop} {S0 T0 : List Nat} {i gs gt : Nat} {S T : List Nat} (h : Mid w wr bx p c H S0 i gs gt S T) (g0 : Good H p0 K S0 T0) (hi : i < p0) (hn : S0.getD i 0 = 0) :
    Mid w wr bx p c H S0 (i + 1) gs gt S T :=
  ⟨h.ix, h.us, h.bs, h.good.mono moved_zero, by rw [h.nzs, nz_take_succ S0 i (by rw [g0.lenS]; exact hi), if_pos hn, Nat.add_zero], h.hgs, h.hgt, h.keep⟩

theorem Mid.done {w wr : World} {bx p0 p c : Nat} {H : Nat → Nat} {K : Nat → Prop} {S0 T0 : List Nat} {gs gt : Nat} {S T : List Nat} (h : Mid w wr bx p c H S0 p0 gs gt S T) (g0 : Good H p0 K S0 T0) : Resized w wr bx p c H K (nz S0) :=
  ⟨gs, gt, S, T, h.ix, h.us, h.bs, h.good.mono (moved_all g0), by rw [h.nzs, List.take_of_length_le (Nat.le_of_eq g0.lenS)], h.hgs, h.hgt, h.keep⟩

set_option maxHeartbeats 2000000 in
theorem resize_row (bx hb B len cap p0 p c g0 : Nat) (sp tp0 : Option Addr) (hs S0 T0 : List Nat) (K : Nat → Prop) (w : World) (hx : IxAt w bx (some ⟨g0, 0, none⟩) tp0 p0 c) (hU : URow w g0 S0)
    (hG : Good (hashOf hs) p0 K S0 T0) (hK : ∀ m, K m → 1 ≤ m ∧ m ≤ len) (hbox : BoxAt w hb sp len cap) (hhs : HsAt w B sp len hs) (hB : B ≤ bx) (hlen : len ≤ 4096)
    (hp : ∃ e, p = 2 ^ e ∧ 3 ≤ e ∧ e ≤ 13) (h8 : 8 ≤ p) (hp2 : p ≤ 8192) (hp0 : p0 ≤ 8192) (hnz : nz S0 ≤ p) (hH : ∀ m, hashOf hs m < 18446744073709551616) :
    Calls Try.prog 27 #[.pointer (some ⟨bx, 0, none⟩), .int .i64 p, .func (.func 25) #[] #[.pointer (some ⟨hb, 0, none⟩)]] w fun e w' => e = .returned (.tuple #[]) ∧ Resized w w' bx p c (hashOf hs) K (nz S0) := by
  have c0 := hx.c0
  have hlt := hx.lt
  have c1 := hx.c1
  have f0 := hx.free 0
  have f1 := hx.free 1
  have q0 := fun o1 o2 => hx.past0 o1 o2
  have q1 := fun o1 o2 => hx.past1 o1 o2
  have qf := fun i o1 o2 => hx.pastf i o1 o2
  have r1 := fun v o1 o2 => hx.stored1 v o1 o2
  have rf := fun v i o1 o2 => hx.storedf v i o1 o2
  have ne0 : Hid (g0 ≠ bx) := (ne_xu hx hU).symm
  have ne1 : Hid (hb ≠ bx) := by
    show _ ≠ _
    rintro rfl; have := hbox.out.symm.trans hx.out; simp at this
  have HP : Hid (∃ e, p = 2 ^ e ∧ 3 ≤ e ∧ e ≤ 13) := hp
  have HH : Hid (∀ m, hashOf hs m < 18446744073709551616) := hH
  have HK : Hid (∀ m, K m → 1 ≤ m ∧ m ≤ len) := hK
  clear hp hH hK
  obtain ⟨Z, hZ, mk27⟩ := make27 p hp2
  obtain ⟨Y, hY, mk28⟩ := make28 p hp2
  go_enter Try.func27, Try.ntmps27
  go_wp2
  go_region
  all_goals
    go_wp2
    clear c0 c1 f0 f1 q0 q1 qf r1 rf mk27 mk28
    go_loopg [25] p0 (fun k v wr => ∃ (i gs gt : Nat) (S T : List Nat), k + i = p0 ∧ v = .int .i64 (i : Int) ∧ Mid w wr bx p c (hashOf hs) S0 i gs gt S T)
    case atStart =>
      first
        | with_reducible exact ⟨0, _, _, _, _, by omega, rfl, mid_start1 hx hZ hY⟩
        | with_reducible exact ⟨0, _, _, _, _, by omega, rfl, mid_start2 hx hZ hY⟩
    case round =>
      obtain ⟨i, gs, gt, S, T, hgk, rfl, hmid⟩ := hrel
      by_cases hi : i < p0
      · have cS := (hmid.oldRow hU ne0.out).cell i (by rw [hG.lenS]; exact hi)
        obtain ⟨s, hs'⟩ : ∃ s, s = S0.getD i 0 := ⟨_, rfl⟩
        rw [← hs'] at cS
        have HS : Hid (s = S0.getD i 0) := hs'
        by_cases hs0 : s = 0
        · subst hs0
          have hm2 := hmid.skipped hG hi hs'.symm
          clear hs'
          have b0 : (((0 : Nat) : Int) != 0) = false := rfl
          go_wp2
          go_roundg (gk - 1)
          case measure => omega
          case rel => exact ⟨i + 1, gs, gt, S, T, by omega, by go_num, hm2⟩
        · have hs1 : ((s : Int) != 0) = true := by simp [hs0]
          have hb2 := HK.out s (by rw [hs']; exact hG.rng i hi (by rw [← hs']; exact hs0))
          have hbox2 := hmid.oldBox hbox ne1.out
          have hhs2 := hhs.below (hmid.keep.below (B := B) (by omega) (by intro k hk e; omega))
          have hcl := clos25 hb B len cap sp hs s wr hbox2 hhs2 hb2.1 hb2.2 hlen
          obtain ⟨hv, hhv⟩ : ∃ hv, hv = hashOf hs s := ⟨_, rfl⟩
          rw [← hhv] at hcl
          have hnzi : nz S < p := by
            have e1 := hmid.nzs
            have e2 := nz_take_succ S0 i (by rw [hG.lenS]; exact hi)
            rw [if_neg (by rw [← hs']; exact hs0)] at e2
            have e3 := nz_take_le S0 (i + 1)
            omega
          have hput := put29 bx gs gt p c S T s hv wr hmid.ix hmid.us hmid.bs hmid.good.lenS hmid.good.lenT HP.out h8 hp2 hnzi (by rw [hhv]; exact HH.out s)
          have HV : Hid (hv = hashOf hs s) := hhv
          clear hhv hs'
          go_wp2_with (first
            | (go_at_call 25; refine hcl.mono ?_; rintro e w' ⟨rfl, rfl⟩)
            | (go_at_call 29; refine hput.mono ?_; rintro e w1 ⟨rfl, j, d, hj, hd, hfree, hpath, hU1, hB1, hbut⟩; have HJ : Hid (j = (hv + d) % p ∧ d < p ∧ S.getD j 0 = 0) := ⟨hj, hd, hfree⟩; clear hj hd hfree))
          go_roundg (gk - 1)
          case measure => omega
          case rel =>
            obtain ⟨hj, hd, hfree⟩ := HJ.out
            have hv' := HV.out
            have hs2 := HS.out
            subst hs2
            subst hv'
            exact ⟨i + 1, gs, gt, _, _, by omega, by go_num, hmid.moved hG hi hs0 (by omega) hj hd hfree hpath hU1 hB1 hbut hlt⟩
      · obtain rfl : i = p0 := by omega
        go_wp2
        go_end0
        exact ⟨rfl, hmid.done hG⟩
end Go.Proofs.Qxb6612798a.Ix
