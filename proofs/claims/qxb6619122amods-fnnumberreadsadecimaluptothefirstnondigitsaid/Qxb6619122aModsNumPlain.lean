/-
  Seat b6619122aM: plain facts on decimal numerals; no Go in sight. Bytes are integers 0 .. 255.
-/
namespace Go.Proofs.Qxb6619122aMods.Num

def digit (c : Int) : Bool := decide (48 ≤ c) && decide (c ≤ 57)

theorem digit_iff (c : Int) : digit c = true ↔ 48 ≤ c ∧ c ≤ 57 := by simp [digit]
theorem digit_no (c : Int) : digit c = false ↔ ¬ (48 ≤ c ∧ c ≤ 57) := by rw [← digit_iff]; simp

/-- The number that a list of digits writes. -/
def value (ds : List Int) : Nat := ds.foldl (fun v c => v * 10 + (c - 48).toNat) 0

theorem value_snoc (ds : List Int) (c : Int) : value (ds ++ [c]) = value ds * 10 + (c - 48).toNat := by simp [value, List.foldl_append]

/-- The length of the leading run of digits. -/
def run (xs : List Int) : Nat := (xs.takeWhile digit).length

theorem run_is : ∀ {xs : List Int} {k : Nat}, (∀ j, j < k → digit (xs.getD j 0) = true) → (k < xs.length → digit (xs.getD k 0) = false) → k ≤ xs.length → run xs = k
  | [], k, _, _, h3 => by simp at h3; simp [run, h3]
  | x :: r, 0, _, h2, _ => by
    have h := h2 (by simp)
    simp at h
    simp [run, h]
  | x :: r, k + 1, h1, h2, h3 => by
    have h := h1 0 (by omega)
    simp at h
    have ih := run_is (xs := r) (k := k) (fun j hj => by simpa using h1 (j + 1) (by omega)) (fun hk => by simpa using h2 (by simpa using hk)) (by simpa using h3)
    unfold run at ih ⊢
    simp [h, ih]

theorem run_le (xs : List Int) : run xs ≤ xs.length := (List.takeWhile_sublist digit).length_le

theorem run_digit : ∀ {xs : List Int} {j : Nat}, j < run xs → digit (xs.getD j 0) = true
  | [], j, h => by simp [run] at h
  | x :: r, j, h => by
    unfold run at h
    cases hx : digit x
    · simp [hx] at h
    · simp [hx] at h
      cases j with
      | zero => simpa using hx
      | succ j => simpa using run_digit (xs := r) (j := j) (by unfold run; omega)

theorem run_stop : ∀ {xs : List Int}, run xs < xs.length → digit (xs.getD (run xs) 0) = false
  | [], h => by simp [run] at h
  | x :: r, h => by
    unfold run at h ⊢
    cases hx : digit x
    · simp [hx]
    · simp [hx] at h ⊢
      simpa [run] using run_stop (xs := r) (by unfold run; omega)

/-- What 'number' answers. -/
def num (xs : List Int) : Nat × Nat :=
  if run xs = 0 ∨ 18 < run xs ∨ (xs.getD 0 0 = 48 ∧ 1 < run xs) then (0, 0) else (value (xs.take (run xs)), run xs)

/-- The digits of v, the greatest first; none of nought. -/
def dig : Nat → Nat → List Int
  | 0, _ => []
  | f + 1, v => if v = 0 then [] else dig f (v / 10) ++ [48 + ((v % 10 : Nat) : Int)]

/-- v's decimal writing. -/
def dec (v : Nat) : List Int := if v = 0 then [48] else dig 24 v

theorem dig_zero (f : Nat) : dig f 0 = [] := by cases f <;> simp [dig]
theorem dig_succ (f v : Nat) (h : v ≠ 0) : dig (f + 1) v = dig f (v / 10) ++ [48 + ((v % 10 : Nat) : Int)] := by simp [dig, h]

theorem snoc_ind {α : Type} {P : List α → Prop} (h0 : P []) (hs : ∀ l a, P l → P (l ++ [a])) (l : List α) : P l := by
  have : ∀ n (l : List α), l.length = n → P l := by
    intro n
    induction n with
    | zero => intro l hl; rw [List.eq_nil_of_length_eq_zero hl]; exact h0
    | succ n ih =>
      intro l hl
      have hne : l ≠ [] := fun e => by rw [e] at hl; cases hl
      rw [← List.dropLast_concat_getLast hne]
      exact hs _ _ (ih _ (by rw [List.length_dropLast]; omega))
  exact this _ l rfl

theorem value_lt (ds : List Int) (h : ∀ c ∈ ds, digit c = true) : value ds < 10 ^ ds.length := by
  revert h
  refine snoc_ind (P := fun ds => (∀ c ∈ ds, digit c = true) → value ds < 10 ^ ds.length) ?_ ?_ ds
  · intro _; simp [value]
  · intro l a ih h
    have ha := (digit_iff a).1 (h a (by simp))
    have := ih (fun c hc => h c (by simp [hc]))
    rw [value_snoc, List.length_append, List.length_singleton, Nat.pow_succ]
    omega

/-- A numeral without a leading nought is the writing of its number. -/
theorem dig_value (ds : List Int) : (∀ c ∈ ds, digit c = true) → ds ≠ [] → ds.getD 0 0 ≠ 48 → ∀ f, ds.length ≤ f → dig f (value ds) = ds ∧ value ds ≠ 0 := by
  refine snoc_ind (P := fun ds => (∀ c ∈ ds, digit c = true) → ds ≠ [] → ds.getD 0 0 ≠ 48 → ∀ f, ds.length ≤ f → dig f (value ds) = ds ∧ value ds ≠ 0) ?_ ?_ ds
  · intro _ h; exact absurd rfl h
  · intro l a ih h _ h0 f hf
    have ha := (digit_iff a).1 (h a (by simp))
    have hf' : 0 < f := by simp at hf; omega
    obtain ⟨f, rfl⟩ : ∃ g, f = g + 1 := ⟨f - 1, by omega⟩
    cases l with
    | nil =>
      simp at h0
      have e : value ([] ++ [a]) = (a - 48).toNat := by simp [value]
      have hne : (a - 48).toNat ≠ 0 := by omega
      rw [e]
      refine ⟨?_, hne⟩
      rw [dig_succ f _ hne, show (a - 48).toNat / 10 = 0 by omega, dig_zero]
      have : (48 : Int) + (((a - 48).toNat % 10 : Nat) : Int) = a := by omega
      rw [this]
    | cons x r =>
      have hl : ∀ c ∈ x :: r, digit c = true := fun c hc => h c (List.mem_append_left _ hc)
      obtain ⟨i1, i2⟩ := ih hl (by simp) (by simpa using h0) f (by simp at hf ⊢; omega)
      rw [value_snoc]
      have hne : value (x :: r) * 10 + (a - 48).toNat ≠ 0 := by omega
      refine ⟨?_, hne⟩
      rw [dig_succ f _ hne, show (value (x :: r) * 10 + (a - 48).toNat) / 10 = value (x :: r) by omega, i1]
      have : (48 : Int) + (((value (x :: r) * 10 + (a - 48).toNat) % 10 : Nat) : Int) = a := by omega
      rw [this]

/-- dig writes digits, its number, no leading nought. -/
theorem dig_is : ∀ (f v : Nat), v < 10 ^ f → (∀ c ∈ dig f v, digit c = true) ∧ value (dig f v) = v ∧ (dig f v).length ≤ f ∧ (v ≠ 0 → dig f v ≠ [] ∧ (dig f v).getD 0 0 ≠ 48)
  | 0, v, h => by
    have : v = 0 := by simpa using h
    subst this
    simp [dig, value]
  | f + 1, v, h => by
    by_cases h0 : v = 0
    · subst h0; simp [dig, value]
    · have hlt : v / 10 < 10 ^ f := by rw [Nat.pow_succ] at h; omega
      obtain ⟨i1, i2, i3, i4⟩ := dig_is f (v / 10) hlt
      rw [dig_succ f v h0]
      have hm : v % 10 < 10 := Nat.mod_lt _ (by omega)
      refine ⟨fun c hc => ?_, ?_, ?_, fun _ => ⟨by simp, ?_⟩⟩
      · rcases List.mem_append.1 hc with hc | hc
        · exact i1 c hc
        · rw [List.mem_singleton.1 hc, digit_iff]; omega
      · rw [value_snoc, i2]; omega
      · rw [List.length_append, List.length_singleton]; omega
      · by_cases hq : v / 10 = 0
        · rw [hq, dig_zero]
          simp
          omega
        · obtain ⟨j1, j2⟩ := i4 hq
          cases hd : dig f (v / 10) with
          | nil => exact absurd hd j1
          | cons x r => rw [hd] at j2; simpa using j2

theorem take_digit {xs : List Int} {k : Nat} (h : ∀ j, j < k → digit (xs.getD j 0) = true) (hk : k ≤ xs.length) : ∀ c ∈ xs.take k, digit c = true := by
  intro c hc
  obtain ⟨j, hj, rfl⟩ := List.getElem_of_mem hc
  rw [List.length_take] at hj
  have := h j (by omega)
  rw [List.getD_eq_getElem?_getD, List.getElem?_eq_getElem (by omega), Option.getD_some] at this
  simpa using this

theorem value_take_lt {xs : List Int} {k : Nat} (h : ∀ j, j < k → digit (xs.getD j 0) = true) (hk : k ≤ xs.length) : value (xs.take k) < 10 ^ k := by
  have := value_lt (xs.take k) (take_digit h hk)
  rwa [List.length_take, Nat.min_eq_left hk] at this

theorem value_take_succ {xs : List Int} {k : Nat} (hk : k < xs.length) : value (xs.take (k + 1)) = value (xs.take k) * 10 + (xs.getD k 0 - 48).toNat := by
  rw [List.take_succ_eq_append_getElem hk, value_snoc, List.getD_eq_getElem?_getD, List.getElem?_eq_getElem hk, Option.getD_some]

/-- The good way of 'number': the answer's writing is the run itself. -/
theorem dec_num {xs : List Int} (h0 : run xs ≠ 0) (h18 : run xs ≤ 18) (hz : ¬ (xs.getD 0 0 = 48 ∧ 1 < run xs)) : num xs = (value (xs.take (run xs)), run xs) ∧ dec (value (xs.take (run xs))) = xs.take (run xs) ∧ value (xs.take (run xs)) < 10 ^ 18 := by
  have hd := take_digit (xs := xs) (k := run xs) (fun j hj => run_digit hj) (run_le xs)
  have hlen : (xs.take (run xs)).length = run xs := by rw [List.length_take, Nat.min_eq_left (run_le xs)]
  have hlt : value (xs.take (run xs)) < 10 ^ 18 := by
    have := value_lt _ hd
    rw [hlen] at this
    exact Nat.lt_of_lt_of_le this (Nat.pow_le_pow_right (by omega) h18)
  have hhead : (xs.take (run xs)).getD 0 0 = xs.getD 0 0 := by
    rw [List.getD_eq_getElem?_getD, List.getElem?_take, if_pos (by omega), List.getD_eq_getElem?_getD]
  refine ⟨by unfold num; rw [if_neg (by omega)], ?_, hlt⟩
  by_cases h48 : xs.getD 0 0 = 48
  · have h1 : run xs = 1 := by omega
    have hx : xs.take (run xs) = [48] := by
      cases xs with
      | nil => simp [run] at h0
      | cons x r => rw [h1]; simp at h48; simp [h48]
    rw [hx]
    rfl
  · obtain ⟨i1, i2⟩ := dig_value (xs.take (run xs)) hd (fun e => by rw [e] at hlen; simp at hlen; omega) (by rw [hhead]; exact h48) 24 (by omega)
    unfold dec
    rw [if_neg i2, i1]

theorem num_good {xs : List Int} {k : Nat} (hr : run xs = k) (h0 : k ≠ 0) (h18 : k ≤ 18) (hz : ¬ (xs.getD 0 0 = 48 ∧ 1 < k)) : num xs = (value (xs.take k), k) := by
  subst hr
  exact (dec_num h0 h18 hz).1

theorem num_bad {xs : List Int} (h : run xs = 0 ∨ 18 < run xs ∨ (xs.getD 0 0 = 48 ∧ 1 < run xs)) : num xs = (0, 0) := by unfold num; rw [if_pos h]

/-- k's writing: 1 to 18 digits, the number k, no leading nought but alone. -/
theorem dec_is {k : Nat} (hk : k < 10 ^ 18) : (∀ c ∈ dec k, digit c = true) ∧ value (dec k) = k ∧ 1 ≤ (dec k).length ∧ (dec k).length ≤ 18 ∧ ((dec k).getD 0 0 = 48 → (dec k).length = 1) := by
  unfold dec
  by_cases h0 : k = 0
  · subst h0; simp [digit, value]
  · rw [if_neg h0]
    obtain ⟨i1, i2, _, i4⟩ := dig_is 24 k (Nat.lt_of_lt_of_le hk (Nat.pow_le_pow_right (by omega) (by omega)))
    obtain ⟨j1, j2, j3, j4⟩ := dig_is 18 k hk
    have e : dig 24 k = dig 18 k := by
      have := (dig_value (dig 18 k) j1 (j4 h0).1 (j4 h0).2 24 (by omega)).1
      rwa [j2] at this
    rw [e]
    refine ⟨j1, j2, ?_, j3, fun h => absurd h (j4 h0).2⟩
    have := (j4 h0).1
    cases hd : dig 18 k with
    | nil => exact absurd hd this
    | cons x r => simp

theorem getD_mem {α : Type} {l : List α} {j : Nat} (h : j < l.length) (z : α) : l.getD j z ∈ l := by
  rw [List.getD_eq_getElem?_getD, List.getElem?_eq_getElem h, Option.getD_some]
  exact List.getElem_mem h

theorem getD_left {l r : List Int} {j : Nat} (h : j < l.length) : (l ++ r).getD j 0 = l.getD j 0 := by
  rw [List.getD_eq_getElem?_getD, List.getElem?_append_left h, List.getD_eq_getElem?_getD]

theorem fill_step {O L : List Int} {m : Nat} {x : Int} (hm : m < O.length) (h : ∀ j, j < m → O.getD j 0 = L.getD j 0) (hx : x = L.getD m 0) : ∀ j, j < m + 1 → (O.set m x).getD j 0 = L.getD j 0 := by
  intro j hj
  by_cases e : j = m
  · subst e; rw [List.getD_eq_getElem?_getD, List.getElem?_set_self hm, Option.getD_some, hx]
  · rw [← h j (by omega), List.getD_eq_getElem?_getD, List.getElem?_set_ne (by omega), List.getD_eq_getElem?_getD]

theorem fill_end {O L : List Int} (hl : O.length = L.length) (h : ∀ j, j < L.length → O.getD j 0 = L.getD j 0) : O = L := by
  apply List.ext_getElem hl
  intro i h1 h2
  have := h i h2
  rw [List.getD_eq_getElem?_getD, List.getElem?_eq_getElem h1, List.getD_eq_getElem?_getD, List.getElem?_eq_getElem h2] at this
  simpa using this

/-- A run of digits with a byte that is none behind it, or nothing. -/
theorem run_front {l r : List Int} (hl : ∀ c ∈ l, digit c = true) (hr : 0 < r.length → digit (r.getD 0 0) = false) : run (l ++ r) = l.length := by
  refine run_is (fun j hj => ?_) (fun hj => ?_) (by simp)
  · rw [getD_left hj]; exact hl _ (getD_mem hj 0)
  · have h0 : 0 < r.length := by rw [List.length_append] at hj; omega
    have := hr h0
    rw [List.getD_eq_getElem?_getD, List.getElem?_append_right (Nat.le_refl _), Nat.sub_self, ← List.getD_eq_getElem?_getD]
    exact this

/-- 'number' at k's writing, alone or with a tail that opens with no digit. -/
theorem num_dec {k : Nat} (hk : k < 10 ^ 18) {r : List Int} (hr : 0 < r.length → digit (r.getD 0 0) = false) : num (dec k ++ r) = (k, (dec k).length) := by
  obtain ⟨i1, i2, i3, i4, i5⟩ := dec_is hk
  have hrun := run_front i1 hr
  unfold num
  rw [hrun, if_neg, List.take_left', i2]
  · rfl
  · rw [getD_left (by omega)]
    rintro (h | h | ⟨h, h'⟩)
    · omega
    · omega
    · have := i5 h; omega

/-- .. with one nought put before it. -/
theorem num_nought {k : Nat} (hk : k < 10 ^ 18) {r : List Int} (hr : 0 < r.length → digit (r.getD 0 0) = false) : num (48 :: (dec k ++ r)) = (0, 0) := by
  obtain ⟨i1, i2, i3, i4, i5⟩ := dec_is hk
  have hrun := run_front (l := 48 :: dec k) (r := r) (fun c hc => by
    rcases List.mem_cons.1 hc with rfl | hc
    · rfl
    · exact i1 c hc) hr
  refine num_bad (Or.inr (Or.inr ⟨rfl, ?_⟩))
  have e : (48 : Int) :: (dec k ++ r) = (48 :: dec k) ++ r := rfl
  rw [e, hrun]
  simp
  omega

end Go.Proofs.Qxb6619122aMods.Num
