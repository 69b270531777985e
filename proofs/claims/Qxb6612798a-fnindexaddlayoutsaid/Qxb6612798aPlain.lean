/-
  THE PLAIN LAW: an open-addressed table of numbers, no Go in sight.
  'S': what each slot holds (0: free). 'T': each slot's tag. 'H m': the hash of number m's key. 'p': how many slots.
-/
namespace Go.Proofs.Qxb6612798a.Ix

/-- The top byte of a hash. -/
def tagN (h : Nat) : Nat := h / 72057594037927936

/-- How many slots are taken. -/
def nz (S : List Nat) : Nat := S.countP (fun x => x != 0)

/-- The first d slots from h's home on are taken. -/
def Path (S : List Nat) (p h d : Nat) : Prop := ∀ d', d' < d → S.getD ((h + d') % p) 0 ≠ 0

structure Good (H : Nat → Nat) (p : Nat) (K : Nat → Prop) (S T : List Nat) : Prop where
  lenS : S.length = p
  lenT : T.length = p
  rng : ∀ i, i < p → S.getD i 0 ≠ 0 → K (S.getD i 0)
  inj : ∀ i j, i < p → j < p → S.getD i 0 ≠ 0 → S.getD i 0 = S.getD j 0 → i = j
  tag : ∀ i, i < p → S.getD i 0 ≠ 0 → T.getD i 0 = tagN (H (S.getD i 0))
  path : ∀ i, i < p → S.getD i 0 ≠ 0 → ∃ d, d < p ∧ i = (H (S.getD i 0) + d) % p ∧ Path S p (H (S.getD i 0)) d

theorem Good.mono {H : Nat → Nat} {p : Nat} {K K' : Nat → Prop} {S T : List Nat} (g : Good H p K S T) (h : ∀ m, K m → K' m) : Good H p K' S T :=
  ⟨g.lenS, g.lenT, fun i hi h0 => h _ (g.rng i hi h0), g.inj, g.tag, g.path⟩

theorem getD_set (S : List Nat) (j n i : Nat) (hj : j < S.length) : (S.set j n).getD i 0 = if i = j then n else S.getD i 0 := by
  by_cases h : i = j
  · subst h; simp [List.getD, hj]
  · simp [List.getD, h, Ne.symm h]

theorem Path.set {S : List Nat} {p h d : Nat} (hp : Path S p h d) (j n : Nat) (hj : j < S.length) (hn : n ≠ 0) : Path (S.set j n) p h d := fun d' hd => by
  rw [getD_set S j n _ hj]
  split
  · exact hn
  · exact hp d' hd

theorem Good.put {H : Nat → Nat} {p : Nat} {K : Nat → Prop} {S T : List Nat} (g : Good H p K S T) {n j d : Nat} (hn : n ≠ 0) (hK : ¬ K n) (hp : 0 < p) (hj : j = (H n + d) % p) (hd : d < p) (h0 : S.getD j 0 = 0) (hpath : Path S p (H n) d) :
    Good H p (fun m => K m ∨ m = n) (S.set j n) (T.set j (tagN (H n))) := by
  have hjp : j < p := by rw [hj]; exact Nat.mod_lt _ hp
  have hjS : j < S.length := by rw [g.lenS]; exact hjp
  have hjT : j < T.length := by rw [g.lenT]; exact hjp
  refine ⟨by simp [g.lenS], by simp [g.lenT], ?_, ?_, ?_, ?_⟩
  · intro i hi
    rw [getD_set S j n i hjS]
    split
    · intro _; exact .inr rfl
    · intro h; exact .inl (g.rng i hi h)
  · intro i k hi hk
    rw [getD_set S j n i hjS, getD_set S j n k hjS]
    split
    · rename_i e1
      split
      · rename_i e2; intro _ _; rw [e1, e2]
      · intro _ e
        exact absurd (e ▸ g.rng k hk (e ▸ hn)) hK
    · split
      · intro h e
        exact absurd (e ▸ g.rng i hi h) hK
      · intro h e; exact g.inj i k hi hk h e
  · intro i hi
    rw [getD_set S j n i hjS, getD_set T j _ i hjT]
    split
    · intro _; rfl
    · intro h; exact g.tag i hi h
  · intro i hi
    rw [getD_set S j n i hjS]
    split
    · rename_i e; subst e
      intro _
      exact ⟨d, hd, hj, hpath.set i n hjS hn⟩
    · intro h
      obtain ⟨d', hd', e, hq⟩ := g.path i hi h
      exact ⟨d', hd', e, hq.set j n hjS hn⟩

theorem getD_replicate (p i : Nat) : (List.replicate p 0).getD i 0 = 0 := by
  by_cases h : i < p <;> simp [List.getD, h]

theorem Good.empty (H : Nat → Nat) (p : Nat) : Good H p (fun _ => False) (List.replicate p 0) (List.replicate p 0) :=
  ⟨by simp, by simp, fun i _ h => absurd (getD_replicate p i) h, fun i _ _ _ h => absurd (getD_replicate p i) h, fun i _ h => absurd (getD_replicate p i) h, fun i _ h => absurd (getD_replicate p i) h⟩

theorem nz_replicate (p : Nat) : nz (List.replicate p 0) = 0 := by
  unfold nz
  rw [List.countP_eq_zero]
  intro x hx
  rw [List.eq_of_mem_replicate hx]; simp

theorem nz_set : ∀ (S : List Nat) (j n : Nat), j < S.length → S.getD j 0 = 0 → n ≠ 0 → nz (S.set j n) = nz S + 1
  | [], j, n, h, _, _ => by simp at h
  | x :: S, 0, n, _, h0, hn => by
    have : x = 0 := by simpa using h0
    subst this
    simp [nz, hn]
  | x :: S, j + 1, n, hj, h0, hn => by
    have ih := nz_set S j n (by simpa using hj) (by simpa [List.getD] using h0) hn
    simp only [nz, List.set_cons_succ, List.countP_cons] at ih ⊢
    omega

theorem nz_free : ∀ (S : List Nat), nz S < S.length → ∃ z, z < S.length ∧ S.getD z 0 = 0
  | [], h => by simp at h
  | x :: S, h => by
    by_cases hx : x = 0
    · exact ⟨0, by simp, by simp [hx]⟩
    · have : nz S < S.length := by
        simp only [nz, List.countP_cons, List.length_cons] at h ⊢
        have : (x != 0) = true := by simpa using hx
        rw [this] at h
        simp at h
        omega
      obtain ⟨z, hz, e⟩ := nz_free S this
      exact ⟨z + 1, by simpa using hz, by simpa [List.getD] using e⟩

theorem nz_take_succ (S : List Nat) (i : Nat) (hi : i < S.length) : nz (S.take (i + 1)) = nz (S.take i) + if S.getD i 0 = 0 then 0 else 1 := by
  rw [List.take_succ_eq_append_getElem hi]
  have e : S.getD i 0 = S[i] := by simp [List.getD, hi]
  rw [e]
  unfold nz
  rw [List.countP_append]
  by_cases h : S[i] = 0 <;> simp [h]

theorem nz_take_le (S : List Nat) (i : Nat) : nz (S.take i) ≤ nz S := by
  unfold nz
  exact List.Sublist.countP_le (List.take_sublist i S)

theorem nz_le (S : List Nat) : nz S ≤ S.length := List.countP_le_length

/-- From a home on every slot is come to. -/
theorem reach (p h z : Nat) (hz : z < p) : ∃ d, d < p ∧ (h + d) % p = z := by
  have hp : 0 < p := by omega
  have hr : h % p < p := Nat.mod_lt _ hp
  by_cases hle : h % p ≤ z
  · refine ⟨z - h % p, by omega, ?_⟩
    rw [← Nat.mod_add_mod, show h % p + (z - h % p) = z from by omega]
    exact Nat.mod_eq_of_lt hz
  · refine ⟨z + p - h % p, by omega, ?_⟩
    rw [← Nat.mod_add_mod, show h % p + (z + p - h % p) = z + p from by omega, Nat.add_mod_right]
    exact Nat.mod_eq_of_lt hz

theorem Path.short {S : List Nat} {p h d : Nat} (hpath : Path S p h d) (hS : S.length = p) (hfree : nz S < p) : d < p := by
  obtain ⟨z, hz, e⟩ := nz_free S (by omega)
  obtain ⟨d', hd', e'⟩ := reach p h z (by omega)
  rcases Nat.lt_or_ge d p with h1 | h1
  · exact h1
  · exact absurd (e' ▸ e) (hpath d' (by omega))

theorem Path.succ {S : List Nat} {p h d : Nat} (hpath : Path S p h d) (hne : S.getD ((h + d) % p) 0 ≠ 0) : Path S p h (d + 1) := fun d' hd => by
  rcases Nat.lt_succ_iff_lt_or_eq.1 hd with h1 | h1
  · exact hpath d' h1
  · rw [h1]; exact hne

theorem next_slot (h d p : Nat) : ((h + d) % p + 1) % p = (h + (d + 1)) % p := by rw [Nat.mod_add_mod]; rfl

/-! ### moving the numbers of an old table into a new one -/
/-- The numbers that stand in the first i slots. -/
def Moved (S0 : List Nat) (i : Nat) (m : Nat) : Prop := m ≠ 0 ∧ ∃ i', i' < i ∧ S0.getD i' 0 = m

theorem moved_zero {S0 : List Nat} {i : Nat} (m : Nat) : Moved S0 i m → Moved S0 (i + 1) m := fun ⟨h, i', hi, e⟩ => ⟨h, i', by omega, e⟩
theorem moved_succ {S0 : List Nat} {i : Nat} (hn : S0.getD i 0 ≠ 0) (m : Nat) : Moved S0 i m ∨ m = S0.getD i 0 → Moved S0 (i + 1) m := by
  rintro (⟨h, i', hi, e⟩ | h)
  · exact ⟨h, i', by omega, e⟩
  · exact ⟨h ▸ hn, i, by omega, h.symm⟩
theorem not_moved {H : Nat → Nat} {p : Nat} {K : Nat → Prop} {S0 T0 : List Nat} (g : Good H p K S0 T0) {i : Nat} (hi : i < p) (hn : S0.getD i 0 ≠ 0) : ¬ Moved S0 i (S0.getD i 0) := by
  rintro ⟨_, i', hi', e⟩
  have := g.inj i i' hi (by omega) hn e.symm
  omega
theorem moved_all {H : Nat → Nat} {p : Nat} {K : Nat → Prop} {S0 T0 : List Nat} (g : Good H p K S0 T0) (m : Nat) : Moved S0 p m → K m := by
  rintro ⟨h, i', hi, e⟩
  subst e
  exact g.rng i' hi h

/-! ### the sizes -/
/-- p slots for k numbers: the least power of two from 8 on that k fills at most three quarters. -/
def Sized (k p : Nat) : Prop := (∃ e, p = 2 ^ e ∧ 3 ≤ e ∧ e ≤ 13) ∧ 4 * k ≤ 3 * p ∧ (p = 8 ∧ 0 < k ∨ 3 * (p / 2) < 4 * k)

theorem Sized.first : Sized 1 8 := ⟨⟨3, rfl, by omega, by omega⟩, by omega, .inl ⟨rfl, by omega⟩⟩
theorem Sized.stay {k p : Nat} (h : Sized k p) (hle : 4 * (k + 1) ≤ 3 * p) : Sized (k + 1) p := ⟨h.1, hle, by rcases h.2.2 with h2 | h2 <;> omega⟩
theorem Sized.double {k p : Nat} (h : Sized k p) (hgt : 3 * p < 4 * (k + 1)) (hk : k < 4096) : Sized (k + 1) (2 * p) := by
  obtain ⟨⟨e, he, h3, h13⟩, hle, _⟩ := h
  have h8 : 8 ≤ p := by
    rw [he, show e = 3 + (e - 3) from by omega, Nat.pow_add]
    have := Nat.one_le_two_pow (n := e - 3)
    omega
  have : e ≠ 13 := by
    rintro rfl
    simp at he
    omega
  refine ⟨⟨e + 1, by rw [he, Nat.pow_succ, Nat.mul_comm], by omega, by omega⟩, by omega, .inr (by omega)⟩
theorem Sized.le {k p : Nat} (h : Sized k p) : 8 ≤ p ∧ p ≤ 8192 := by
  obtain ⟨⟨e, he, h3, h13⟩, _, _⟩ := h
  constructor
  · rw [he]; exact Nat.pow_le_pow_right (n := 2) (by omega) h3
  · rw [he]; exact Nat.pow_le_pow_right (n := 2) (by omega) h13

theorem Sized.pos {k p : Nat} (h : Sized k p) : 0 < k := by
  rcases h.2.2 with h2 | h2 <;> omega

/-! ### masks -/
theorem mask_mod (x p : Nat) (h : ∃ e, p = 2 ^ e ∧ 3 ≤ e ∧ e ≤ 13) : x &&& (p - 1) = x % p := by
  obtain ⟨e, rfl, _⟩ := h
  exact Nat.and_two_pow_sub_one_eq_mod x e
theorem mask_self (p : Nat) (h : ∃ e, p = 2 ^ e ∧ 3 ≤ e ∧ e ≤ 13) : p &&& (p - 1) = 0 := by
  rw [mask_mod p p h]; exact Nat.mod_self p

end Go.Proofs.Qxb6612798a.Ix
