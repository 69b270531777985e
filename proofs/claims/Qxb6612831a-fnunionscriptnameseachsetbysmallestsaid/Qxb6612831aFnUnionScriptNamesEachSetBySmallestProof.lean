/-
  'FnUnionScriptNamesEachSetBySmallest' answers true: the frame after the seat's shell for the sister law, the second argument (a slice of pairs) opened by hand; the walk: Qxb6612831aLaw4.lean.
-/
import Derived.Test.Qxb6612831aRows
import Derived.WalkKit
import Derived.ProofKit
import Derived.OpenShut
import Derived.ShutString
import Derived.ChangeOld
import Derived.Below
import Derived.Deep.Slices
import Derived.Test.Qxb6612831aLaw4
namespace Go.Proofs.Qxb6612831a.fnUnionScriptNamesEachSetBySmallest
open Go.ChangeShapes Go.WideShapes Go.ChangeAt Go.RowKit
open Go.ChangeMaps (open_string shut_string)
set_option linter.unusedVariables false

theorem own : ownKnob Try.prog.godebug = none := by kernel_rfl
theorem laidOut : laidOutB Try.prog = true := by kernel_rfl
theorem cells28 : Try.prog.cellsOf 28 = 2 := by kernel_rfl
theorem cells21 : Try.prog.cellsOf 21 = 1 := by kernel_rfl

theorem one_of {cs : List Value} {j : Nat} {v : Value} (h : (cs.drop j).take 1 = [v]) : cs[j]? = some v := by
  have := congrArg (fun l => l[0]?) h
  simpa using this

/-- A slice of pairs that came in: its numbers. -/
theorem opened {H : Type} {enc : TypeId × Value → H} {W : World} {a0 : Option Addr} {len cap : Nat} {d : DataW H} {p : List MemPlace}
    (h0 : DataW.Trod enc Try.prog W 0 (fun _ => true) true 26 (.slice a0 len cap) d p) : ∃ zs, Uf.IsPairs W a0 len cap zs := by
  obtain ⟨fuel, hf⟩ := h0
  rcases Go.Deep.open_slice Try.underlying26 hf with ⟨hcs, _⟩ | ⟨a, l, c, m, n, D, Pl, hcs, _, hl, hm, hmm, _, hx⟩
  · simp [Value.cells] at hcs
    obtain ⟨rfl, rfl, rfl⟩ := hcs
    exact ⟨[], .inl ⟨rfl, rfl⟩⟩
  · simp [Value.cells] at hcs
    obtain ⟨rfl, rfl, rfl⟩ := hcs
    simp at hmm
    have hall : ∀ q, q < len * 2 → ∃ z : Int, W.cell? (a.add q) = some (.int .i32 z) ∧ (Lit.int .i32 z).wf = true := by
      intro q hq
      obtain ⟨cs', h1, h2⟩ := hx (q / 2) (by omega)
      rw [cells28] at h1
      obtain ⟨_, hlen, hcell⟩ := World.cells?_some h1
      obtain ⟨xs, k, rfl, _, _, hxl, hel⟩ := DataW.trod_array Try.underlying28 h2
      have h3 := hel (q % 2) (by omega)
      rw [cells21, Nat.mul_one] at h3
      rw [List.getElem?_eq_getElem (by omega)] at h3
      obtain ⟨z, hz, _, hw⟩ := DataW.trod_int Try.underlying21 h3
      have h4 := hcell (q % 2) (by omega)
      rw [one_of hz, Addr.add_add, show q / 2 * 2 + q % 2 = q from by omega] at h4
      exact ⟨z, h4, hw⟩
    obtain ⟨V, hV⟩ := Go.Deep.choose_lt (α := Int) (p := fun q z => W.cell? (a.add q) = some (.int .i32 z) ∧ (Lit.int .i32 z).wf = true) hall
    refine ⟨(List.range (len * 2)).map V, .inr ⟨a, rfl, hl, hm, by simp, fun i hi => ?_, fun z hz => ?_⟩⟩
    · rw [(hV i hi).1]
      simp [List.getD, hi]
    · obtain ⟨i, hi, rfl⟩ := List.mem_map.1 hz
      exact (hV i (by simpa using hi)).2

theorem walk (a0 : Int) (a1 : Option Addr) (len1 cap1 : Nat) (z1 : List Int) (w : World) (w1 : Uf.IsPairs w a1 len1 cap1 z1) :
    Calls Try.prog 4 #[.int .i64 a0, .slice a1 len1 cap1] w fun e w' => e = .returned (.bool true) ∧ Below w.heap.size w w' :=
  Uf.law4_all a0 a1 len1 cap1 z1 w w1

set_option maxRecDepth 100000 in
theorem lifted (os : Os) (started : os.Started) (H : Type) (enc : TypeId × Value → H) :
    ReturnsInHanded {} Try.checked os 4 .any (Rows.fnUnionScriptNamesEachSetBySmallestSpec.pre6 enc Try.prog Try.f4 Rows.fnUnionScriptNamesEachSetBySmallestRow.domain false) (Rows.fnUnionScriptNamesEachSetBySmallestSpec.post enc Try.prog Try.f4 false true false false) := by
  refine returnsInHanded_of_change (C := Try.checked) own started (by kernel_rfl) Try.func4
    (ChangeSpec.witness6 (enc := enc) (C := Try.checked) false ⟨#[], #[.int .i64 0, .slice none 0 0], []⟩ 8 (by kernel_rfl) (by kernel_rfl) (by kernel_rfl) (by kernel_rfl)) ?_
  intro W base args ds gs before hval0 hW hcnd _
  have hval : ∀ (j : Nat) t v, Try.f4.params[j]? = some t → args[j]? = some v → Value.okWide Try.prog W .any base t v := hval0
  have hW' := hW
  obtain ⟨p, q, hA0, hV, rfl, hfz, hnd⟩ := hW
  have hA : DataW.TrodAll enc Try.prog W 0 (fun _ => true) true Try.f4.params.toList args.toList ds p := hA0
  rw [Try.params4] at hA hval
  obtain ⟨v0, vs0, d0, ds0, p0, q0, hargs, rfl, rfl, h0, r0⟩ := trodAll_cons hA
  obtain ⟨v1, vs1, d1, ds1, p1, q1, rfl, rfl, rfl, h1, r1⟩ := trodAll_cons r0
  obtain ⟨rfl, rfl, rfl⟩ := trodAll_nil r1
  obtain rfl : args = #[v0, v1] := by cases args; simp_all
  obtain ⟨rfl, rfl⟩ := trodVars_none hV
  obtain ⟨a0, rfl, rfl, rfl, w0⟩ := open_int Try.underlying3 (hval 0 3 v0 rfl rfl) h0
  obtain ⟨a1, len1, cap1, rfl⟩ := okWide_slice Try.underlying26 (hval 1 26 v1 rfl rfl)
  have k1 := h1
  have lt1 : ∀ x ∈ p1, x.block < W.heap.size := by obtain ⟨m, hm⟩ := k1; exact DataW.trod_lt m _ _ _ hm
  obtain ⟨z1, w1⟩ := opened h1
  clear hA0 hval0
  refine (walk a0 a1 len1 cap1 z1 W w1).mono fun e W' ⟨he, bel⟩ => ?_
  subst he
  exact ⟨_, rfl, _, _, _, [], _, [], hW', trodAll_mk1 (shut_bool Try.underlying4 _), (trodAll_cons_mk (shut_int Try.underlying3 w0) (trodAll_cons_mk (Below.trod laidOut (by kernel_rfl) (of_decide_eq_true (by kernel_rfl)) k1 bel lt1) trodAll_mk0)), rfl, bel.frame _, fun h => by cases h⟩

theorem over : Rows.fnUnionScriptNamesEachSetBySmallestRow.holds Try.pinned (OpenSpec.ofChange Rows.fnUnionScriptNamesEachSetBySmallestSpec) :=
  OpenClaim.holds_of_wide 4 Try.f4 rfl rfl rfl rfl rfl rfl rfl ⟨rfl, rfl, rfl, rfl, rfl⟩ rfl rfl rfl rfl rfl (by kernel_rfl) Try.func4 (by kernel_rfl)
    (of_decide_eq_true (by kernel_rfl)) (by unfold Func.isWrapper; first | (rw [if_pos (by decide +kernel)]; kernel_rfl) | (rw [if_neg (by decide +kernel)]; exact ⟨rfl, rfl⟩))
    (fun os started H enc _ => lifted os started H enc)

/-- ████ THE STATEMENT ████ -/
theorem proved : Rows.FnUnionScriptNamesEachSetBySmallestSaid := over
#print axioms proved
end Go.Proofs.Qxb6612831a.fnUnionScriptNamesEachSetBySmallest
