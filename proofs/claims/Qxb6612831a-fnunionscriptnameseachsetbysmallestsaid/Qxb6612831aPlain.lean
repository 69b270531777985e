/-
  THE PLAIN LAW: a forest of parents, no Go in sight. 'U': each node's parent. 'R': each node's root.
-/
namespace Go.Proofs.Qxb6612831a.Uf

/-- Every parent lies in [0, x]. -/
structure Forest (U : List Nat) (n : Nat) : Prop where
  len : U.length = n
  le : ∀ x, x < n → U.getD x 0 ≤ x

/-- R gives each node's root. -/
structure IsRoots (U R : List Nat) (n : Nat) : Prop where
  len : R.length = n
  eq : ∀ x, x < n → R.getD x 0 = if U.getD x 0 = x then x else R.getD (U.getD x 0) 0

theorem getD_set (S : List Nat) (j n i : Nat) (hj : j < S.length) : (S.set j n).getD i 0 = if i = j then n else S.getD i 0 := by
  by_cases h : i = j
  · subst h; simp [List.getD, hj]
  · simp [List.getD, h, Ne.symm h]

theorem IsRoots.unique {U R R' : List Nat} {n : Nat} (f : Forest U n) (h : IsRoots U R n) (h' : IsRoots U R' n) : ∀ x, x < n → R.getD x 0 = R'.getD x 0 := by
  intro x
  induction x using Nat.strongRecOn with
  | _ x ih =>
    intro hx
    rw [h.eq x hx, h'.eq x hx]
    split
    · rfl
    · have := f.le x hx
      exact ih _ (by omega) (by omega)

theorem IsRoots.le {U R : List Nat} {n : Nat} (f : Forest U n) (h : IsRoots U R n) : ∀ x, x < n → R.getD x 0 ≤ x := by
  intro x
  induction x using Nat.strongRecOn with
  | _ x ih =>
    intro hx
    rw [h.eq x hx]
    split
    · exact Nat.le_refl _
    · have := f.le x hx
      have := ih (U.getD x 0) (by omega) (by omega)
      omega

/-- A root is its own root. -/
theorem IsRoots.idem {U R : List Nat} {n : Nat} (f : Forest U n) (h : IsRoots U R n) : ∀ x, x < n → R.getD (R.getD x 0) 0 = R.getD x 0 := by
  intro x
  induction x using Nat.strongRecOn with
  | _ x ih =>
    intro hx
    by_cases e : U.getD x 0 = x
    · have : R.getD x 0 = x := by rw [h.eq x hx, if_pos e]
      rw [this, this]
    · have hle := f.le x hx
      have : R.getD x 0 = R.getD (U.getD x 0) 0 := by rw [h.eq x hx, if_neg e]
      rw [this]
      exact ih _ (by omega) (by omega)

/-- Whoever is a root is its own parent. -/
theorem IsRoots.parent {U R : List Nat} {n : Nat} (f : Forest U n) (h : IsRoots U R n) {x : Nat} (hx : x < n) (hr : R.getD x 0 = x) : U.getD x 0 = x := by
  by_cases e : U.getD x 0 = x
  · exact e
  · have hle := f.le x hx
    have h1 : R.getD x 0 = R.getD (U.getD x 0) 0 := by rw [h.eq x hx, if_neg e]
    have h2 := h.le f (U.getD x 0) (by omega)
    omega
theorem IsRoots.self {U R : List Nat} {n : Nat} (h : IsRoots U R n) {x : Nat} (hx : x < n) (he : U.getD x 0 = x) : R.getD x 0 = x := by rw [h.eq x hx, if_pos he]
theorem IsRoots.up {U R : List Nat} {n : Nat} (h : IsRoots U R n) {x : Nat} (hx : x < n) : R.getD x 0 = R.getD (U.getD x 0) 0 := by
  by_cases e : U.getD x 0 = x
  · rw [e]
  · rw [h.eq x hx, if_neg e]

/-- A node's parent is set to its grandparent: no root turns. -/
theorem halve {U R : List Nat} {n : Nat} (f : Forest U n) (h : IsRoots U R n) {v : Nat} (hv : v < n) (hne : U.getD v 0 ≠ v) :
    Forest (U.set v (U.getD (U.getD v 0) 0)) n ∧ IsRoots (U.set v (U.getD (U.getD v 0) 0)) R n := by
  have hl : v < U.length := by rw [f.len]; exact hv
  have h1 := f.le v hv
  have h2 := f.le (U.getD v 0) (by omega)
  refine ⟨⟨by simp [f.len], ?_⟩, ⟨h.len, ?_⟩⟩
  · intro x hx
    rw [getD_set U v _ x hl]
    split
    · omega
    · exact f.le x hx
  · intro x hx
    rw [getD_set U v _ x hl]
    by_cases e : x = v
    · subst e
      rw [if_pos rfl, if_neg (by omega), h.up hv, h.up (x := U.getD x 0) (by omega)]
    · rw [if_neg e]
      exact h.eq x hx

/-- The roots behind a union of the sets of a and b. -/
def merge (a b r : Nat) : Nat := if r = a ∨ r = b then min a b else r
def merged (R : List Nat) (a b : Nat) : List Nat := R.map (merge a b)

theorem getD_merged (R : List Nat) (a b x : Nat) (hx : x < R.length) : (merged R a b).getD x 0 = merge a b (R.getD x 0) := by
  simp [merged, List.getD, hx]

theorem join {U R : List Nat} {n : Nat} (f : Forest U n) (h : IsRoots U R n) {a b : Nat} (ha : a < n) (hb : b < n) (ra : R.getD a 0 = a) (rb : R.getD b 0 = b) :
    Forest (U.set (max a b) (min a b)) n ∧ IsRoots (U.set (max a b) (min a b)) (merged R a b) n := by
  have hm : max a b < n := by omega
  have hl : max a b < U.length := by rw [f.len]; exact hm
  refine ⟨⟨by simp [f.len], ?_⟩, ⟨by simp [merged, h.len], ?_⟩⟩
  · intro x hx
    rw [getD_set U _ _ x hl]
    split
    · omega
    · exact f.le x hx
  · intro x hx
    rw [getD_set U _ _ x hl, getD_merged R a b x (by rw [h.len]; exact hx)]
    by_cases e : x = max a b
    · rw [if_pos e]
      have hr : R.getD x 0 = x := by
        rcases Nat.le_total a b with h1 | h1
        · rw [e, Nat.max_eq_right h1]; exact rb
        · rw [e, Nat.max_eq_left h1]; exact ra
      have hmn : R.getD (min a b) 0 = min a b := by
        rcases Nat.le_total a b with h1 | h1
        · rw [Nat.min_eq_left h1]; exact ra
        · rw [Nat.min_eq_right h1]; exact rb
      have hx1 : merge a b (R.getD x 0) = min a b := by
        unfold merge; rw [hr, if_pos (by omega)]
      rw [hx1]
      split
      · omega
      · rw [getD_merged R a b (min a b) (by rw [h.len]; omega), hmn]
        unfold merge; rw [if_pos (by omega)]
    · rw [if_neg e]
      by_cases hp : U.getD x 0 = x
      · rw [if_pos hp, h.self hx hp]
        unfold merge
        split
        · omega
        · rfl
      · have hle := f.le x hx
        rw [if_neg hp, getD_merged R a b _ (by rw [h.len]; omega), h.up hx]

/-- Every node alone. -/
theorem alone (n : Nat) : Forest (List.range n) n ∧ IsRoots (List.range n) (List.range n) n := by
  have e : ∀ x, x < n → (List.range n).getD x 0 = x := fun x hx => by simp [List.getD, hx]
  exact ⟨⟨by simp, fun x hx => by rw [e x hx]; exact Nat.le_refl _⟩, ⟨by simp, fun x hx => by rw [e x hx, if_pos rfl]⟩⟩

theorem merge_same (a r : Nat) : merge a a r = r := by
  unfold merge
  split
  · omega
  · rfl

/-! ### the roots, one after the other -/
/-- R is right at the nodes below x. -/
structure RootsTo (U R : List Nat) (n x : Nat) : Prop where
  len : R.length = n
  eq : ∀ y, y < x → R.getD y 0 = if U.getD y 0 = y then y else R.getD (U.getD y 0) 0

theorem RootsTo.step {U R : List Nat} {n x : Nat} (f : Forest U n) (h : RootsTo U R n x) (hx : x < n) (v : Nat) (hv : v = if U.getD x 0 = x then x else R.getD (U.getD x 0) 0) : RootsTo U (R.set x v) n (x + 1) := by
  have hl : x < R.length := by rw [h.len]; exact hx
  refine ⟨by simp [h.len], fun y hy => ?_⟩
  have hle := f.le y (by omega)
  by_cases e : y = x
  · subst e
    rw [getD_set R y v y hl, if_pos rfl, hv]
    by_cases hp : U.getD y 0 = y
    · rw [if_pos hp, if_pos hp]
    · rw [if_neg hp, if_neg hp, getD_set R y _ _ hl, if_neg (by omega)]
  · rw [getD_set R x v y hl, getD_set R x v _ hl, if_neg e, if_neg (c := U.getD y 0 = x) (by omega)]
    exact h.eq y (by omega)
theorem RootsTo.done {U R : List Nat} {n : Nat} (h : RootsTo U R n n) : IsRoots U R n := ⟨h.len, h.eq⟩
theorem RootsTo.bound {U R : List Nat} {n x : Nat} (f : Forest U n) (h : RootsTo U R n x) (hx : x ≤ n) : ∀ y, y < x → R.getD y 0 ≤ y := by
  intro y
  induction y using Nat.strongRecOn with
  | _ y ih =>
    intro hy
    rw [h.eq y hy]
    split
    · exact Nat.le_refl _
    · have := f.le y (by omega)
      have := ih (U.getD y 0) (by omega) (by omega)
      omega
end Go.Proofs.Qxb6612831a.Uf
