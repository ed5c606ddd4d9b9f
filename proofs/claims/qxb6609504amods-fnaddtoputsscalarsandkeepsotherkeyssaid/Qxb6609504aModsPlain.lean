/-
  THE PLAIN LAW under the two AddTo statements: no Go in sight. A table is a list of keys and values, each key once; 'upd' stores, 'look' reads, 'putsN' stores 'n' times; 'dist' counts the different ones among the first 'n'.
-/
namespace Go.Proofs.Qxb6609504aMods.Tab

section
variable {K : Type} [DecidableEq K] {α : Type}

def upd : List (K × α) → K → α → List (K × α)
  | [], k, v => [(k, v)]
  | (k', v') :: r, k, v => if k' = k then (k, v) :: r else (k', v') :: upd r k v

def look : List (K × α) → K → Option α
  | [], _ => none
  | (k', v) :: r, k => if k' = k then some v else look r k

theorem look_upd (L : List (K × α)) (k j : K) (v : α) : look (upd L k v) j = if k = j then some v else look L j := by
  induction L with
  | nil => simp [upd, look]
  | cons x r ih =>
    obtain ⟨k', v'⟩ := x
    unfold upd
    by_cases h : k' = k
    · subst h
      rw [if_pos rfl]
      by_cases hj : k' = j
      · simp [look, hj]
      · simp [look, hj]
    · rw [if_neg h]
      by_cases hj : k' = j
      · subst hj
        simp [look, Ne.symm h]
      · simp only [look, if_neg hj, ih]

theorem look_none (L : List (K × α)) (k : K) : look L k = none ↔ k ∉ L.map (·.1) := by
  induction L with
  | nil => simp [look]
  | cons x r ih =>
    obtain ⟨k', v'⟩ := x
    by_cases h : k' = k
    · subst h; simp [look]
    · simp [look, h, ih, Ne.symm h]

theorem look_mem (L : List (K × α)) (k : K) (v : α) (h : look L k = some v) : (k, v) ∈ L := by
  induction L with
  | nil => simp [look] at h
  | cons x r ih =>
    obtain ⟨k', v'⟩ := x
    by_cases e : k' = k
    · subst e; simp [look] at h; subst h; simp
    · simp [look, e] at h; simp [ih h]

theorem keys_upd (L : List (K × α)) (k : K) (v : α) : (upd L k v).map (·.1) = if k ∈ L.map (·.1) then L.map (·.1) else L.map (·.1) ++ [k] := by
  induction L with
  | nil => simp [upd]
  | cons x r ih =>
    obtain ⟨k', v'⟩ := x
    by_cases h : k' = k
    · subst h; simp [upd]
    · simp only [upd, if_neg h, List.map_cons, ih, List.mem_cons, Ne.symm h, false_or]
      split <;> simp

theorem mem_keys_upd (L : List (K × α)) (k j : K) (v : α) : j ∈ (upd L k v).map (·.1) ↔ j = k ∨ j ∈ L.map (·.1) := by
  rw [keys_upd]
  split
  · rename_i h
    constructor
    · exact .inr
    · rintro (rfl | h') <;> assumption
  · rw [List.mem_append, List.mem_singleton]
    constructor
    · rintro (h | h); exact .inr h; exact .inl h
    · rintro (h | h); exact .inr h; exact .inl h

theorem nodup_upd (L : List (K × α)) (k : K) (v : α) (h : (L.map (·.1)).Nodup) : ((upd L k v).map (·.1)).Nodup := by
  rw [keys_upd]
  split
  · exact h
  · rename_i hk
    rw [List.nodup_append]
    refine ⟨h, by simp, ?_⟩
    intro a ha b hb
    rw [List.mem_singleton] at hb
    subst hb
    intro e; subst e; exact hk ha

theorem upd_length_le (L : List (K × α)) (k : K) (v : α) : (upd L k v).length ≤ L.length + 1 := by
  induction L with
  | nil => simp [upd]
  | cons x r ih =>
    obtain ⟨k', v'⟩ := x
    by_cases h : k' = k
    · simp [upd, h]
    · simp [upd, h]; exact ih

/-- Every entry of 'upd L k v' is the new one or was there. -/
theorem mem_upd (L : List (K × α)) (k : K) (v : α) (x : K × α) (h : x ∈ upd L k v) : x = (k, v) ∨ x ∈ L := by
  induction L with
  | nil => simp [upd] at h; exact .inl h
  | cons y r ih =>
    obtain ⟨k', v'⟩ := y
    by_cases e : k' = k
    · simp [upd, e] at h
      rcases h with h | h
      · exact .inl h
      · exact .inr (List.mem_cons_of_mem _ h)
    · simp [upd, e] at h
      rcases h with h | h
      · exact .inr (by simp [h])
      · rcases ih h with h | h
        · exact .inl h
        · exact .inr (List.mem_cons_of_mem _ h)

/-- The stores of 'f 0', .., 'f (n - 1)', one behind the other. -/
def putsN (L : List (K × α)) (f : Nat → K) (v : Nat → α) : Nat → List (K × α)
  | 0 => L
  | n + 1 => upd (putsN L f v n) (f n) (v n)

theorem look_putsN_none (L : List (K × α)) (f : Nat → K) (v : Nat → α) (k : K) : ∀ n, (∀ j, j < n → f j ≠ k) → look (putsN L f v n) k = look L k
  | 0, _ => rfl
  | n + 1, h => by
    unfold putsN
    rw [look_upd, if_neg (h n (Nat.lt_succ_self n)), look_putsN_none L f v k n (fun j hj => h j (Nat.lt_succ_of_lt hj))]

theorem look_putsN_last (L : List (K × α)) (f : Nat → K) (v : Nat → α) (k : K) (i : Nat) (hi : f i = k) : ∀ n, i < n → (∀ j, i < j → j < n → f j ≠ k) → look (putsN L f v n) k = some (v i)
  | 0, h, _ => absurd h (Nat.not_lt_zero _)
  | n + 1, h, hl => by
    unfold putsN
    rw [look_upd]
    by_cases e : n = i
    · subst e; rw [if_pos hi]
    · rw [if_neg (hl n (by omega) (Nat.lt_succ_self n))]
      exact look_putsN_last L f v k i hi n (by omega) (fun j h1 h2 => hl j h1 (by omega))

theorem mem_putsN (L : List (K × α)) (f : Nat → K) (v : Nat → α) (k : K) : ∀ n, k ∈ (putsN L f v n).map (·.1) ↔ (∃ j, j < n ∧ f j = k) ∨ k ∈ L.map (·.1)
  | 0 => by simp [putsN]
  | n + 1 => by
    unfold putsN
    rw [mem_keys_upd, mem_putsN L f v k n]
    constructor
    · rintro (rfl | ⟨j, hj, e⟩ | h)
      · exact .inl ⟨n, Nat.lt_succ_self n, rfl⟩
      · exact .inl ⟨j, Nat.lt_succ_of_lt hj, e⟩
      · exact .inr h
    · rintro (⟨j, hj, e⟩ | h)
      · rcases Nat.lt_succ_iff_lt_or_eq.1 hj with h' | rfl
        · exact .inr (.inl ⟨j, h', e⟩)
        · exact .inl e.symm
      · exact .inr (.inr h)

theorem nodup_putsN (L : List (K × α)) (f : Nat → K) (v : Nat → α) (h : (L.map (·.1)).Nodup) : ∀ n, ((putsN L f v n).map (·.1)).Nodup
  | 0 => h
  | n + 1 => nodup_upd _ _ _ (nodup_putsN L f v h n)

theorem putsN_length_le (L : List (K × α)) (f : Nat → K) (v : Nat → α) : ∀ n, (putsN L f v n).length ≤ L.length + n
  | 0 => Nat.le_refl _
  | n + 1 => by
    have := putsN_length_le L f v n
    have := upd_length_le (putsN L f v n) (f n) (v n)
    unfold putsN; omega

/-- Two ways of giving the values that agree up to 'n' give one table. -/
theorem putsN_congr (L : List (K × α)) (f g : Nat → K) (v u : Nat → α) : ∀ n, (∀ j, j < n → f j = g j ∧ v j = u j) → putsN L f v n = putsN L g u n
  | 0, _ => rfl
  | n + 1, h => by
    unfold putsN
    rw [putsN_congr L f g v u n (fun j hj => h j (Nat.lt_succ_of_lt hj)), (h n (Nat.lt_succ_self n)).1, (h n (Nat.lt_succ_self n)).2]

/-- The different ones among the first 'n', in the order in which they come first. -/
def firsts (g : Nat → K) : Nat → List K
  | 0 => []
  | n + 1 => if g n ∈ firsts g n then firsts g n else firsts g n ++ [g n]

theorem mem_firsts (g : Nat → K) (k : K) : ∀ n, k ∈ firsts g n ↔ ∃ j, j < n ∧ g j = k
  | 0 => by simp [firsts]
  | n + 1 => by
    have ih := mem_firsts g k n
    unfold firsts
    split
    · rename_i hm
      rw [ih]
      constructor
      · rintro ⟨j, hj, e⟩; exact ⟨j, Nat.lt_succ_of_lt hj, e⟩
      · rintro ⟨j, hj, e⟩
        rcases Nat.lt_succ_iff_lt_or_eq.1 hj with h' | rfl
        · exact ⟨j, h', e⟩
        · rw [← ih, ← e]; exact hm
    · rw [List.mem_append, List.mem_singleton, ih]
      constructor
      · rintro (⟨j, hj, e⟩ | e)
        · exact ⟨j, Nat.lt_succ_of_lt hj, e⟩
        · exact ⟨n, Nat.lt_succ_self n, e.symm⟩
      · rintro ⟨j, hj, e⟩
        rcases Nat.lt_succ_iff_lt_or_eq.1 hj with h' | rfl
        · exact .inl ⟨j, h', e⟩
        · exact .inr e.symm

theorem nodup_firsts (g : Nat → K) : ∀ n, (firsts g n).Nodup
  | 0 => by simp [firsts]
  | n + 1 => by
    have ih := nodup_firsts g n
    unfold firsts
    split
    · exact ih
    · rename_i hm
      rw [List.nodup_append]
      refine ⟨ih, by simp, ?_⟩
      intro a ha b hb
      rw [List.mem_singleton] at hb
      subst hb
      intro e; subst e; exact hm ha

/-- What b1Distinct counts. -/
def dist (g : Nat → K) : Nat → Nat
  | 0 => 0
  | n + 1 => dist g n + if g n ∈ firsts g n then 0 else 1

theorem dist_old (g : Nat → K) (n : Nat) (h : ∃ j, j < n ∧ g j = g n) : dist g (n + 1) = dist g n := by
  have := (mem_firsts g (g n) n).2 h
  show dist g n + (if g n ∈ firsts g n then 0 else 1) = dist g n
  rw [if_pos this]; rfl
theorem dist_new (g : Nat → K) (n : Nat) (h : ∀ j, j < n → g j ≠ g n) : dist g (n + 1) = dist g n + 1 := by
  have : ¬ g n ∈ firsts g n := fun hm => by
    obtain ⟨j, hj, e⟩ := (mem_firsts g (g n) n).1 hm
    exact h j hj e
  show dist g n + (if g n ∈ firsts g n then 0 else 1) = dist g n + 1
  rw [if_neg this]

theorem dist_eq (g : Nat → K) : ∀ n, dist g n = (firsts g n).length
  | 0 => rfl
  | n + 1 => by
    have ih := dist_eq g n
    show dist g n + (if g n ∈ firsts g n then 0 else 1) = (if g n ∈ firsts g n then firsts g n else firsts g n ++ [g n]).length
    by_cases h : g n ∈ firsts g n
    · rw [if_pos h, if_pos h, ih]; rfl
    · rw [if_neg h, if_neg h, List.length_append, ih]; rfl

theorem dist_le (g : Nat → K) : ∀ n, dist g n ≤ n
  | 0 => Nat.le_refl _
  | n + 1 => by
    have := dist_le g n
    unfold dist
    split <;> omega

theorem length_le_of_subset : ∀ (l m : List K), l.Nodup → (∀ x, x ∈ l → x ∈ m) → l.length ≤ m.length
  | [], m, _, _ => Nat.zero_le _
  | a :: l, m, hn, hs => by
    rw [List.nodup_cons] at hn
    have ha : a ∈ m := hs a (by simp)
    have ih := length_le_of_subset l (m.erase a) hn.2 (fun x hx => by
      have hxa : x ≠ a := fun e => hn.1 (e ▸ hx)
      exact (List.mem_erase_of_ne hxa).2 (hs x (by simp [hx])))
    rw [List.length_erase_of_mem ha] at ih
    have : 0 < m.length := List.length_pos_of_mem ha
    simp only [List.length_cons]
    omega

/-- A table with each key once that holds just the keys 'g 0', .., 'g (n - 1)' has as many entries as there are different ones. -/
theorem length_table (L : List (K × α)) (g : Nat → K) (n : Nat) (hn : (L.map (·.1)).Nodup) (hm : ∀ k, k ∈ L.map (·.1) ↔ ∃ j, j < n ∧ g j = k) : L.length = dist g n := by
  rw [dist_eq]
  have h1 := length_le_of_subset (L.map (·.1)) (firsts g n) hn (fun x hx => (mem_firsts g x n).2 ((hm x).1 hx))
  have h2 := length_le_of_subset (firsts g n) (L.map (·.1)) (nodup_firsts g n) (fun x hx => (hm x).2 ((mem_firsts g x n).1 hx))
  rw [List.length_map] at h1 h2
  omega

/-- Among those that are 'k' there is a last. -/
theorem last_ex (f : Nat → K) (k : K) : ∀ n, (∃ i, i < n ∧ f i = k) → ∃ i, i < n ∧ f i = k ∧ ∀ j, i < j → j < n → f j ≠ k
  | 0, ⟨i, hi, _⟩ => absurd hi (Nat.not_lt_zero _)
  | n + 1, ⟨i, hi, e⟩ => by
    by_cases h : f n = k
    · exact ⟨n, Nat.lt_succ_self n, h, fun j h1 h2 => by omega⟩
    · have hne : i ≠ n := fun e' => h (e' ▸ e)
      obtain ⟨i', h1, h2, h3⟩ := last_ex f k n ⟨i, by omega, e⟩
      exact ⟨i', by omega, h2, fun j hj1 hj2 => by
        by_cases e' : j = n
        · subst e'; exact h
        · exact h3 j hj1 (by omega)⟩

/-- WHAT A KEY's VALUE IS in a table into which first the 'pf', then the 'f' were stored: that of its last 'f', else that of its last 'pf'. -/
def Says {β : Type} (f : Nat → K) (X : Nat → β) (n : Nat) (pf : Nat → K) (PX : Nat → β) (m : Nat) (k : K) (y : β) : Prop :=
  (∃ i, i < n ∧ f i = k ∧ (∀ j, i < j → j < n → f j ≠ k) ∧ y = X i) ∨ ((∀ i, i < n → f i ≠ k) ∧ ∃ i, i < m ∧ pf i = k ∧ (∀ j, i < j → j < m → pf j ≠ k) ∧ y = PX i)

theorem says_look {β : Type} (f : Nat → K) (V : Nat → α) (X : Nat → β) (n : Nat) (pf : Nat → K) (PV : Nat → α) (PX : Nat → β) (m : Nat) (R : α → β → Prop) (hR : ∀ i, i < n → R (V i) (X i)) (hPR : ∀ i, i < m → R (PV i) (PX i)) (k : K)
    (h : (∃ i, i < n ∧ f i = k) ∨ ∃ i, i < m ∧ pf i = k) : ∃ v y, look (putsN (putsN [] pf PV m) f V n) k = some v ∧ R v y ∧ Says f X n pf PX m k y := by
  by_cases h1 : ∃ i, i < n ∧ f i = k
  · obtain ⟨i, hi, e, hl⟩ := last_ex f k n h1
    exact ⟨V i, X i, look_putsN_last _ f V k i e n hi hl, hR i hi, .inl ⟨i, hi, e, hl, rfl⟩⟩
  · have hno : ∀ i, i < n → f i ≠ k := fun i hi e => h1 ⟨i, hi, e⟩
    have h2 : ∃ i, i < m ∧ pf i = k := h.resolve_left h1
    obtain ⟨i, hi, e, hl⟩ := last_ex pf k m h2
    exact ⟨PV i, PX i, by rw [look_putsN_none _ f V k n hno, look_putsN_last _ pf PV k i e m hi hl], hPR i hi, .inr ⟨hno, i, hi, e, hl, rfl⟩⟩

theorem length_two (f : Nat → K) (V : Nat → α) (n : Nat) (pf : Nat → K) (PV : Nat → α) (m : Nat) (g : Nat → K) (N : Nat) (h : ∀ k, (∃ j, j < N ∧ g j = k) ↔ (∃ i, i < n ∧ f i = k) ∨ ∃ i, i < m ∧ pf i = k) :
    (putsN (putsN [] pf PV m) f V n).length = dist g N := by
  apply length_table
  · exact nodup_putsN _ f V (nodup_putsN _ pf PV (by simp) m) n
  · intro k
    rw [mem_putsN, mem_putsN, h k]
    simp

end
end Go.Proofs.Qxb6609504aMods.Tab
