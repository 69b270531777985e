/-
  THE CONTRACTS OF ZZindexAdd, zzAddAll, zzBytes_FnIndexAddLayout, zzIsLeastSlots.
-/
import Derived.Test.Qxb6612798aAdd
namespace Go.Proofs.Qxb6612798a.Ix
open Go.RowKit

theorem IxAt.alloc {w : World} {bx : Nat} {sp tp : Option Addr} {p n : Nat} (h : IxAt w bx sp tp p n) (o : Obj) : IxAt (w.alloc o) bx sp tp p n := by
  show _ = _
  rw [Below.heap_alloc _ _ _ h.lt]; exact h.out
theorem URow.alloc {w : World} {g : Nat} {S : List Nat} (h : URow w g S) (o : Obj) : URow (w.alloc o) g S := by
  show _ = _
  rw [Below.heap_alloc _ _ _ h.lt]; exact h.out
theorem BRow.alloc {w : World} {g : Nat} {S : List Nat} (h : BRow w g S) (o : Obj) : BRow (w.alloc o) g S := by
  show _ = _
  rw [Below.heap_alloc _ _ _ h.lt]; exact h.out
theorem Tab.alloc {w : World} {B bx c k p gs gt : Nat} {hs S T : List Nat} (h : Tab w B bx c k p gs gt hs S T) (o : Obj) : Tab (w.alloc o) B bx c k p gs gt hs S T := ⟨h.ix.alloc o, h.us.alloc o, h.bs.alloc o, h.good, h.nzs, h.hgs, h.hgt⟩
theorem Holds.alloc {w : World} {B bx k : Nat} {hs : List Nat} (h : Holds w B bx k hs) (o : Obj) : Holds (w.alloc o) B bx k hs := by
  rcases h with ⟨rfl, hx⟩ | ⟨p, gs, gt, S, T, hsz, ht⟩
  · exact .inl ⟨rfl, hx.alloc o⟩
  · exact .inr ⟨p, gs, gt, S, T, hsz, ht.alloc o⟩

set_option maxHeartbeats 1000000 in
theorem add17 (bx B len cap k : Nat) (sp : Option Addr) (hs : List Nat) (n hv : Nat) (w : World) (h : Holds w B bx k hs) (hB : B ≤ w.heap.size) (hbx : B ≤ bx)
    (hhs : HsAt w B sp len hs) (hlen : len ≤ 4096) (hkl : k < len) (hn : Hid (n = k + 1)) (hhv : Hid (hv = hashOf hs n)) (hHH : ∀ m, hashOf hs m < 18446744073709551616) :
    Calls Try.prog 17 #[.pointer (some ⟨bx, 0, none⟩), .int .u32 n, .int .u64 hv, .slice sp len cap] w fun e w' => e = .returned (.tuple #[]) ∧ Holds w' B bx (k + 1) hs ∧ Below B w w' := by
  have ha : Below B w (w.alloc (.cells #[.slice sp len cap] 22)) := (Below.refl _ _).alloc hB _
  have hbox : BoxAt (w.alloc (.cells #[.slice sp len cap] 22)) w.heap.size sp len cap := by
    show (w.heap.push _)[w.heap.size]? = _
    simp
  have hadd := add24 bx w.heap.size B len cap k sp hs n hv (w.alloc (.cells #[.slice sp len cap] 22)) (h.alloc _) (by simp; omega) hbx hbox (hhs.below ha) hlen hkl hn hhv hHH
  clear hbox hhs h hHH
  go_enter Try.func17, Try.ntmps17
  go_wp2_with (go_at_call 24; refine hadd.mono ?_; rintro e w1 ⟨rfl, h1, b1⟩)
  go_end0
  exact ⟨rfl, h1, ha.trans b1⟩

set_option maxHeartbeats 1000000 in
theorem addAll8 (bx B len cap : Nat) (sp : Option Addr) (hs : List Nat) (w : World) (h : Holds w B bx 0 hs) (hB : B ≤ w.heap.size) (hbx : B ≤ bx)
    (hhs : HsAt w B sp len hs) (hlen : len ≤ 4096) (hHH : ∀ m, hashOf hs m < 18446744073709551616) :
    Calls Try.prog 8 #[.pointer (some ⟨bx, 0, none⟩), .slice sp len cap, .int .i64 0, .int .i64 len] w fun e w' => e = .returned (.tuple #[]) ∧ Holds w' B bx len hs ∧ Below B w w' := by
  rcases Nat.eq_zero_or_pos len with h0 | h0
  · subst h0
    go_enter Try.func8, Try.ntmps8
    go_wp2
    refine wp_loop_rounds 1 ?_
    rw [rounds_succ]
    go_wp2
    go_end0
    exact ⟨rfl, h, Below.refl _ _⟩
  · have HHS := hide hhs
    obtain ⟨b, o, rfl, hbB, hc⟩ := hhs h0
    have HC := hide hc
    have HHH := hide hHH
    clear hc hHH
    go_enter Try.func8, Try.ntmps8
    go_wp2
    go_loopw [8] (fun v wr => ∃ k : Nat, k ≤ len ∧ v = .int .i64 (k : Int) ∧ Holds wr B bx k hs ∧ Below B w wr) (fun v _ => len - (intOf v).toNat)
    case atStart => exact ⟨0, Nat.zero_le _, rfl, h, Below.refl _ _⟩
    case round =>
      obtain ⟨k, hk, rfl, hH, hbel⟩ := hrel
      by_cases hlt : k < len
      · have cS := unhide HC k hlt
        rw [← hbel.cell (p := ⟨b, o + k, none⟩) hbB] at cS
        have hadd := add17 bx B len cap k (some ⟨b, o, none⟩) hs (k + 1) (hs.getD k 0) wr hH (by have := hbel.size; omega) hbx ((unhide HHS).below hbel) hlen hlt rfl (show _ = _ by simp [hashOf]) (unhide HHH)
        rw [show ((k + 1 : Nat) : Int) = (k : Int) + 1 from by omega] at hadd
        obtain ⟨hv, hhv⟩ : ∃ hv, hv = hs.getD k 0 := ⟨_, rfl⟩
        rw [← hhv] at cS hadd
        clear hhv
        go_wp2_with (go_at_call 17; refine hadd.mono ?_; rintro e w1 ⟨rfl, h1, b1⟩)
        go_roundw
        case rel => exact ⟨k + 1, by omega, by go_num, h1, hbel.trans b1⟩
        case measure => simp [intOf]; omega
      · obtain rfl : k = len := by omega
        go_wp2
        go_end0
        exact ⟨rfl, hH, hbel⟩

/-- Is the length at most 2^20? -/
def okLen (n : Nat) : Bool := decide (n ≤ 1048576)
theorem ret_bool {a b : Bool} (h : a = b) : Ending.returned (.bool a) = .returned (.bool b) := by rw [h]

set_option maxHeartbeats 400000 in
theorem zz10 (p : Option Addr) (n c : Nat) (w : World) (hn : n ≤ maxLen) :
    Calls Try.prog 10 #[.slice p n c] w fun e w' => e = .returned (.bool (okLen n)) ∧ w = w' := by
  unfold maxLen at hn
  by_cases h1 : 1048576 < n
  all_goals
    go_enter Try.func10, Try.ntmps10
    go_wp2
    go_ret
    exact ⟨ret_bool (by simp [okLen]; omega), rfl⟩

theorem i64_mask (p : Nat) (h : ∃ e, p = 2 ^ e ∧ 3 ≤ e ∧ e ≤ 13) (h1 : 1 ≤ p) (h2 : p ≤ 8192) : bits BinOp.and IntKind.i64 (p : Int) ((p : Int) - 1) = 0 := by
  rw [show ((p : Int) - 1) = ((p - 1 : Nat) : Int) from by omega]
  show IntKind.i64.wrap ((BitVec.ofInt 64 (p : Int) &&& BitVec.ofInt 64 ((p - 1 : Nat) : Int)).toNat : Int) = _
  rw [BitVec.toNat_and, ofInt_u64 p (by omega), ofInt_u64 (p - 1) (by omega), mask_self p h]
  rfl

set_option maxHeartbeats 400000 in
theorem least14 (p k : Nat) (w : World) (hsz : Sized k p) (hk : k ≤ 4096) :
    Calls Try.prog 14 #[.int .i64 p, .int .i64 8, .int .i64 k] w fun e w' => e = .returned (.bool true) ∧ w = w' := by
  have hle := hsz.le
  have hm := i64_mask p hsz.1 (by omega) hle.2
  have h1 := hsz.2.1
  have h3 := hsz.2.2
  clear hsz
  by_cases h8 : p = 8
  · subst h8
    clear hm h3
    go_enter Try.func14, Try.ntmps14
    go_wp2
    go_ret
    exact ⟨rfl, rfl⟩
  · have h2 : 3 * (p / 2) < 4 * k := by omega
    clear h3
    have e0 : decide ((p : Int) ≤ 0) = false := by simp; omega
    have e1 : decide ((p : Int) < 8) = false := by simp; omega
    have e3 : ((p : Int) == 8) = false := by simp; omega
    go_enter Try.func14, Try.ntmps14
    go_wp2
    go_ret
    exact ⟨ret_bool (by simp; omega), rfl⟩
end Go.Proofs.Qxb6612798a.Ix
