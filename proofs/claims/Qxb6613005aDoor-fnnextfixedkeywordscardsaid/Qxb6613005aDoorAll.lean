/-
  THE WALK OF FnNextFixedKeyWords, WHOLE.
-/
import Derived.Test.Qxb6613005aDoorOut
namespace Go.Proofs.Qxb6613005aDoor.Kw
open Go.RowKit

/-- What the walk is told of a slice that came in. -/
def IsRow (k : IntKind) (w : World) (a : Option Addr) (len cap : Nat) (zs : List Int) : Prop :=
  (a = none ∧ len = 0 ∧ cap = 0 ∧ zs = []) ∨
  ∃ x, a = some x ∧ len ≤ cap ∧ cap ≤ maxLen ∧ zs.length = cap ∧ (∀ i, i < zs.length → w.cell? (x.add i) = some (.int k (zs.getD i 0))) ∧ ∀ n ∈ zs, (Lit.int k n).wf = true
theorem IsRow.len {k : IntKind} {w : World} {a : Option Addr} {len cap : Nat} {zs : List Int} (h : IsRow k w a len cap zs) : len ≤ 9223372036854775807 := by
  rcases h with ⟨_, rfl, _, _⟩ | ⟨_, _, h1, h2, _⟩
  · exact Nat.zero_le _
  · unfold maxLen at h2; omega

theorem byte_bounds {x : Int} (h : (Lit.int .u8 x).wf = true) : 0 ≤ x ∧ x < 256 := by
  have := bounds_u8 h
  omega

theorem law_all (a0 : Option Addr) (len0 cap0 : Nat) (z0 : List Int) (a1 a2 a3 a4 a5 a6 : Int) (w : World) (w0 : IsRow .u8 w a0 len0 cap0 z0) :
    Calls Tryd.prog 4 #[.slice a0 len0 cap0, .int .u8 a1, .int .i64 a2, .int .i64 a3, .int .i64 a4, .int .i64 a5, .int .i64 a6] w fun e w' => e = .returned (.bool true) ∧ Below w.heap.size w w' := by
  have hlm := w0.len
  by_cases hn : len0 ≤ 1048576
  case neg => exact out1 a0 len0 cap0 a1 a2 a3 a4 a5 a6 w hlm hn
  by_cases h1 : a1 = 0 ∨ a1 = 255
  case neg => exact out2 a0 len0 cap0 a1 a2 a3 a4 a5 a6 w hn (fun h => h1 (.inl h)) (fun h => h1 (.inr h))
  by_cases h2 : a2 < 1
  · exact out3 a0 len0 cap0 a1 a2 a3 a4 a5 a6 w hn h1 h2
  by_cases h3 : (len0 : Int) < a2
  · exact out4 a0 len0 cap0 a1 a2 a3 a4 a5 a6 w hn h1 h2 h3
  obtain ⟨s, rfl⟩ := Int.eq_ofNat_of_zero_le (show 0 ≤ a2 by omega)
  by_cases h5 : a3 < 0
  · exact out5 a0 len0 cap0 a1 s a3 a4 a5 a6 w hn h1 (by omega) (by omega) h5
  by_cases h6 : a4 < 1
  · exact out6 a0 len0 cap0 a1 s a3 a4 a5 a6 w hn h1 (by omega) (by omega) h5 h6
  by_cases h7 : (s : Int) < a4
  · exact out7 a0 len0 cap0 a1 s a3 a4 a5 a6 w hn h1 (by omega) (by omega) h5 h6 h7
  obtain ⟨L, rfl⟩ := Int.eq_ofNat_of_zero_le (show 0 ≤ a4 by omega)
  by_cases h8 : ((s - L : Nat) : Int) < a3
  · exact out8 a0 len0 cap0 a1 s L (s - L) a3 a5 a6 w hn h1 (by omega) (by omega) h5 (by omega) (by omega) rfl h8
  obtain ⟨f, rfl⟩ := Int.eq_ofNat_of_zero_le (show 0 ≤ a3 by omega)
  by_cases h9 : a5 < 0
  · exact out9 a0 len0 cap0 a1 s f L (s - L) a5 a6 w hn h1 (by omega) (by omega) (by omega) (by omega) rfl (by omega) h9
  obtain ⟨v, rfl⟩ := Int.eq_ofNat_of_zero_le (show 0 ≤ a5 by omega)
  by_cases h10 : len0 / s ≤ v
  · exact out10 a0 len0 cap0 a1 s f L (s - L) _ v a6 w hn h1 (by omega) (by omega) (by omega) (by omega) rfl (by omega) rfl h10
  have h10' := Nat.lt_of_not_le h10
  by_cases h11 : a6 < 0
  · exact out11 a0 len0 cap0 a1 s f L (s - L) _ v a6 w hn h1 (by omega) (by omega) (by omega) (by omega) rfl (by omega) rfl h10' h11
  obtain ⟨d, rfl⟩ := Int.eq_ofNat_of_zero_le (show 0 ≤ a6 by omega)
  by_cases h12 : L < d
  · exact out12 a0 len0 cap0 a1 s f L (s - L) _ v d w hn h1 (by omega) (by omega) (by omega) (by omega) rfl (by omega) rfl h10' h12
  have hP : v * s + s ≤ len0 := by
    have e1 := Nat.mul_le_mul_right s (show v + 1 ≤ len0 / s from h10')
    have e2 := Nat.div_mul_le_self len0 s
    rw [Nat.add_mul, Nat.one_mul] at e1
    omega
  have hs1 : 1 ≤ s := by omega
  have hs2 : s ≤ len0 := by omega
  have hL1 : 1 ≤ L := by omega
  have hL2 : L ≤ s := by omega
  have hf : f ≤ s - L := by omega
  have hd : d ≤ L := by omega
  clear h2 h3 h5 h6 h7 h8 h9 h10 h11 h12
  rcases w0 with ⟨rfl, rfl, rfl, rfl⟩ | ⟨x, rfl, hl, hm, hz, hcell, hwz⟩
  · omega
  · obtain ⟨b, o, t⟩ := x
    have hc0 := hcell 0 (by omega)
    obtain rfl : t = none := by simpa [Addr.add] using World.cell?_spot hc0
    have hplain : ∀ i, (⟨b, o, none⟩ : Addr).add i = ⟨b, o + i, none⟩ := fun i => by unfold Addr.add; split <;> simp_all
    rw [hplain] at hc0
    have hbz : ∀ i, i < z0.length → 0 ≤ z0.getD i 0 ∧ z0.getD i 0 < 256 := fun i hi => by
      have := byte_bounds (hwz z0[i] (List.getElem_mem hi))
      simpa [List.getD, hi] using this
    have hUl : ((z0.map Int.toNat).take len0).length = len0 := by simp; omega
    have hget : ∀ i, i < len0 → ((z0.map Int.toNat).take len0).getD i 0 = (z0.getD i 0).toNat := fun i hi => by
      have : i < z0.length := by omega
      simp [List.getD, hi, this]
    have hby : Byt ((z0.map Int.toNat).take len0) := fun i => by
      by_cases hi : i < len0
      · rw [hget i hi]
        have := hbz i (by omega)
        omega
      · rw [List.getD, List.getElem?_eq_none (by rw [hUl]; omega)]
        exact Nat.zero_lt_of_ne_zero (by omega)
    obtain ⟨fl, F, hF, rfl, hfl⟩ : ∃ fl F : Nat, Flips fl F ∧ a1 = (fl : Int) ∧ (fl = 0 ∨ fl = 255) := by
      rcases h1 with rfl | rfl
      · exact ⟨0, 0, .inl ⟨rfl, rfl⟩, rfl, .inl rfl⟩
      · exact ⟨255, _, .inr ⟨rfl, rfl⟩, rfl, .inr rfl⟩
    refine law_main b o len0 cap0 fl s f L v d _ _ _ F ((z0.map Int.toNat).take len0) w (block_lt_of_cell hc0) hUl (fun i hi => ?_) hby hn hl (by unfold maxLen at hm; omega) hF hfl hs1 hs2 hL1 hL2 hf h10' hd rfl rfl rfl hP
    rw [← hplain, hcell i (by omega), hget i hi]
    have := hbz i (by omega)
    rw [Int.toNat_of_nonneg this.1]
#print axioms law_all
end Go.Proofs.Qxb6613005aDoor.Kw
