/-
  A NEW ROW OF BYTES: 'make([]byte, n)' and 'copy(zzc, a)' as laws of the walk, the world behind each a letter of which the row is known whole.
-/
import Derived.Test.Qxb6612733aHex
import Derived.Laws.CopyOwn
namespace Go.Proofs.Qxb6612733a.Hex
open Go.RowKit

/-- Block g holds just the bytes xs, none frozen. -/
def Row (w : World) (g : Nat) (xs : List Int) : Prop := w.heap[g]? = some (.cells (xs.map (Value.int .u8)).toArray 5 (0, 0))
theorem Row.out {w : World} {g : Nat} {xs : List Int} (h : Row w g xs) : w.heap[g]? = some (.cells (xs.map (Value.int .u8)).toArray 5 (0, 0)) := h

theorem Row.cell {w : World} {g : Nat} {xs : List Int} (h : Row w g xs) (i : Nat) (hi : i < xs.length) : w.cell? ⟨g, i, none⟩ = some (.int .u8 (xs.getD i 0)) := by
  simp [World.cell?, h.out, hi, List.getD]

theorem Row.bin {w : World} {g : Nat} {xs : List Int} (h : Row w g xs) (k n : Nat) (hk : k + n ≤ xs.length) : BIn w (some ⟨g, k, none⟩) n (xs.drop k) := fun hn =>
  ⟨g, k, rfl, fun i hi => by rw [h.cell _ (by omega)]; simp [List.getD]⟩

theorem Row.lt {w : World} {g : Nat} {xs : List Int} (h : Row w g xs) : g < w.heap.size := (Array.getElem?_eq_some_iff.1 h.out).1
/-- A row below B is as it was. -/
theorem Row.below {B : Nat} {w w' : World} {g : Nat} {xs : List Int} (h : Row w g xs) (hb : Below B w w') (hg : g < B) : Row w' g xs := by
  show _ = _
  rw [hb.block g hg]; exact h.out

theorem info5 : (Try.prog.info? 5).map (fun i => (i.zero, i.size, i.bytes)) = some (some (.int .u8 0), 1, 1) := by kernel_rfl
theorem size5 : (Try.prog.info? 5).map (·.size) = some 1 := by kernel_rfl

theorem made_eq (n : Nat) : madeCells (Value.int .u8 0).cells n = ((List.replicate n (0 : Int)).map (Value.int .u8)).toArray := by
  apply Array.ext
  · simp [size_madeCells]
  · intro i h1 h2
    simp [madeCells, Value.cells, Nat.mod_one]

theorem wpList_make_row {w : World} {ops : Array Oper} {rest : List Oper} {o : Oper} {a : Act} {Q : Exit → Act → World → Prop} (hgd : o.guard = none) (l c : Operand) (hop : o.op = Op.makeSlice 30 l c)
    (n : Nat) (kl kc : IntKind) (L C : Int) (hl : a.eval l = .int kl L) (hc : a.eval c = .int kc C) (hL : L = (n : Int)) (hC : C = (n : Int)) (hn : n ≤ 16777216)
    (hK : ∀ w', Row w' w.heap.size (List.replicate n 0) → Below w.heap.size w w' → w'.heap.size = w.heap.size + 1 → wpList Try.prog ops Q rest (a.put o.dst (.slice (some ⟨w.heap.size, 0, none⟩) n n)) w') :
    wpList Try.prog ops Q (o :: rest) a w := by
  obtain ⟨i, hi, hz0, hz1, hz2⟩ := info_parts info5
  refine wpList_plain hgd fun K hK' => ?_
  subst hL
  subst hC
  have hrun := run_make (P := Try.prog) w 30 5 i (.int .u8 0) Try.underlying30 hi hz0 kl kc n n (by omega) (by omega) (by rw [hz2]; omega) (by omega)
  unfold Oper.wp
  simp [execOp, hop, hl, hc, hrun, Result.andThen]
  refine hK' _ _ (hK _ ?_ ((Below.refl _ _).alloc (Nat.le_refl _) _) (by simp))
  show _ = _
  rw [hz1, Nat.mul_one, made_eq]
  show (w.heap.push _)[w.heap.size]? = _
  simp

theorem wpList_copy_row {w : World} {ops : Array Oper} {rest : List Oper} {o : Oper} {a : Act} {Q : Exit → Act → World → Prop} (hgd : o.guard = none) (d s : Operand)
    (ho : o.op = .call { callee := .builtin .copy, args := #[d, s], argTypes := #[30, 30] })
    (g m dc : Nat) (sp : Option Addr) (n sc : Nat) (hd : a.eval d = .slice (some ⟨g, 0, none⟩) m dc) (hs : a.eval s = .slice sp n sc)
    (zs xs : List Int) (hg : Row w g zs) (hz : zs.length = m) (hx : xs.length = n) (hnm : n ≤ m) (hsrc : BIn w sp n xs)
    (hK : ∀ w', Row w' g (xs ++ zs.drop n) → (∀ k, k ≠ g → w'.heap[k]? = w.heap[k]?) → Below g w w' → w'.heap.size = w.heap.size → wpList Try.prog ops Q rest (a.put o.dst (goInt n)) w') :
    wpList Try.prog ops Q (o :: rest) a w := by
  rcases Nat.eq_zero_or_pos n with h0 | h0
  · subst h0
    obtain rfl : xs = [] := List.eq_nil_of_length_eq_zero hx
    refine wpList_copy_nothing hgd d s 30 30 ho 5 Try.underlying30 size5 _ _ _ _ _ _ hd hs (by simp) ?_
    exact hK w hg (fun _ _ => rfl) (Below.refl _ _) rfl
  · obtain ⟨b, o', rfl, hcell⟩ := hsrc h0
    refine wpList_copy_own hgd d s 30 30 ho 5 Try.underlying30 size5 g 0 m dc _ n sc hd hs _ 5 hg.out (xs.map (Value.int .u8)) (by simp only [List.length_map, hx]; exact (Nat.min_eq_left hnm).symm) ?_ (by simp; omega) (by simp [Value.oneCell']) ?_
    · intro j v hj
      have hjl : j < xs.length := by
        rcases Nat.lt_or_ge j xs.length with h | h
        · exact h
        · simp [List.getElem?_eq_none h] at hj
      have hplain : (⟨b, o', none⟩ : Addr).add j = ⟨b, o' + j, none⟩ := by unfold Addr.add; split <;> simp_all
      rw [hplain, hcell j (by omega)]
      simp [hjl] at hj
      subst hj
      simp [List.getD, hjl]
    · have hl : (xs.map (Value.int .u8)).length = n := by simp [hx]
      rw [hl]
      refine hK _ ?_ (fun k hk => setRow_other w g k _ hk) (below_setRow (Below.refl _ _) (Nat.le_refl _) _) (by simp)
      show _ = _
      rw [setRow_heap w g _ _ 5 (0, 0) hg.out]
      simp

#print axioms wpList_copy_row
end Go.Proofs.Qxb6612733a.Hex
