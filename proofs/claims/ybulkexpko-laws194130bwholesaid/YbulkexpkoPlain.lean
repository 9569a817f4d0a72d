/-
  OUR OWN. The plain law: a table of pairs, no Go in sight.
-/
namespace Go.Proofs.Ybulkexpko.Plain

/-- The first place of k among the keys. -/
def idx : List Int → Int → Option Nat
  | [], _ => none
  | a :: l, k => if a = k then some 0 else (idx l k).map (· + 1)

def get : List (Int × Int) → Int → Option Int
  | [], _ => none
  | p :: l, k => if p.1 = k then some p.2 else get l k

def put : List (Int × Int) → Int → Int → List (Int × Int)
  | [], k, v => [(k, v)]
  | p :: l, k, v => if p.1 = k then (k, v) :: l else p :: put l k v

def del : List (Int × Int) → Int → List (Int × Int)
  | [], _ => []
  | p :: l, k => if p.1 = k then l else p :: del l k

def keys (l : List (Int × Int)) : List Int := l.map Prod.fst
def vals (l : List (Int × Int)) : List Int := l.map Prod.snd

theorem idx_none {l : List (Int × Int)} {k : Int} (h : idx (keys l) k = none) (v : Int) : get l k = none ∧ put l k v = l ++ [(k, v)] ∧ del l k = l := by
  induction l with
  | nil => exact ⟨rfl, rfl, rfl⟩
  | cons p l ih =>
    simp only [keys, List.map_cons, idx] at h
    by_cases e : p.1 = k
    · simp [e] at h
    · simp only [e, if_false, Option.map_eq_none_iff] at h
      obtain ⟨h1, h2, h3⟩ := ih h
      simp [get, put, del, e, h1, h2, h3]

theorem idx_some {l : List (Int × Int)} {k : Int} {j : Nat} (h : idx (keys l) k = some j) (v : Int) :
    j < l.length ∧ (∃ u, l[j]? = some (k, u) ∧ get l k = some u) ∧ put l k v = l.set j (k, v) ∧ del l k = l.eraseIdx j := by
  induction l generalizing j with
  | nil => simp [keys, idx] at h
  | cons p l ih =>
    simp only [keys, List.map_cons, idx] at h
    by_cases e : p.1 = k
    · simp only [e, if_true, Option.some.injEq] at h
      subst h
      refine ⟨by simp, ⟨p.2, by simp [← e], by simp [get, e]⟩, by simp [put, e], by simp [del, e]⟩
    · simp only [e, if_false, Option.map_eq_some_iff] at h
      obtain ⟨i, hi, rfl⟩ := h
      obtain ⟨h1, ⟨u, h2, h3⟩, h4, h5⟩ := ih hi
      exact ⟨by simp; omega, ⟨u, by simpa using h2, by simp [get, e, h3]⟩, by simp [put, e, h4], by simp [del, e, h5]⟩

theorem idx_lt {l : List Int} {k : Int} {j : Nat} (h : idx l k = some j) : j < l.length := by
  induction l generalizing j with
  | nil => simp [idx] at h
  | cons a l ih =>
    simp only [idx] at h
    by_cases e : a = k
    · simp only [e, if_true, Option.some.injEq] at h; subst h; simp
    · simp only [e, if_false, Option.map_eq_some_iff] at h
      obtain ⟨i, hi, rfl⟩ := h
      have := ih hi
      simp; omega

/-- The search's step: nothing among the first i. -/
theorem idx_step (l : List Int) (k : Int) (i : Nat) (hi : i < l.length) (hno : ∀ j, j < i → l.getD j 0 ≠ k) (hy : l.getD i 0 = k) : idx l k = some i := by
  induction l generalizing i with
  | nil => simp at hi
  | cons a l ih =>
    cases i with
    | zero => simp at hy; simp [idx, hy]
    | succ i =>
      have h0 : a ≠ k := by simpa using hno 0 (by omega)
      have := ih i (by simpa using hi) (fun j hj => by simpa using hno (j + 1) (by omega)) (by simpa using hy)
      simp [idx, h0, this]

theorem idx_no (l : List Int) (k : Int) (hno : ∀ j, j < l.length → l.getD j 0 ≠ k) : idx l k = none := by
  induction l with
  | nil => rfl
  | cons a l ih =>
    have h0 : a ≠ k := by simpa using hno 0 (by simp)
    have := ih (fun j hj => by simpa using hno (j + 1) (by simp; omega))
    simp [idx, h0, this]

theorem get_put (l : List (Int × Int)) (k v k' : Int) : get (put l k v) k' = if k = k' then some v else get l k' := by
  induction l with
  | nil => simp [put, get]
  | cons p l ih =>
    by_cases e : p.1 = k
    · by_cases e2 : k = k'
      · simp [put, get, e, e2]
      · have : p.1 ≠ k' := by rw [e]; exact e2
        simp [put, get, e, e2]
    · by_cases e2 : k = k'
      · subst e2; simp [put, get, e, ih]
      · simp [put, get, e, e2, ih]

theorem get_del (l : List (Int × Int)) (k k' : Int) (h : k ≠ k') : get (del l k) k' = get l k' := by
  induction l with
  | nil => rfl
  | cons p l ih =>
    by_cases e : p.1 = k
    · have : p.1 ≠ k' := by rw [e]; exact h
      simp [del, get, e, h]
    · simp [del, get, e, ih]

def Tidy (l : List (Int × Int)) : Prop := (keys l).Nodup

theorem mem_put {l : List (Int × Int)} {k v x : Int} (h : x ∈ keys (put l k v)) : x = k ∨ x ∈ keys l := by
  induction l with
  | nil => simpa [put, keys] using h
  | cons p l ih =>
    by_cases e : p.1 = k
    · simp only [put, e, if_true, keys, List.map_cons, List.mem_cons] at h ⊢
      rcases h with h | h
      · exact .inl h
      · exact .inr (.inr h)
    · simp only [put, e, if_false, keys, List.map_cons, List.mem_cons] at h ⊢
      rcases h with h | h
      · exact .inr (.inl h)
      · rcases ih h with h | h
        · exact .inl h
        · exact .inr (.inr h)

theorem Tidy.put {l : List (Int × Int)} (h : Tidy l) (k v : Int) : Tidy (put l k v) := by
  induction l with
  | nil => simp [Plain.put, Tidy, keys]
  | cons p l ih =>
    simp only [Tidy, keys, List.map_cons, List.nodup_cons] at h
    by_cases e : p.1 = k
    · subst e
      simp only [Plain.put, if_true, Tidy, keys, List.map_cons, List.nodup_cons]
      exact h
    · have := ih h.2
      simp only [Plain.put, e, if_false, Tidy, keys, List.map_cons, List.nodup_cons]
      refine ⟨fun hm => ?_, this⟩
      rcases mem_put hm with h1 | h1
      · exact e h1
      · exact h.1 h1

theorem get_of_mem {l : List (Int × Int)} (h : Tidy l) {k v : Int} (hm : (k, v) ∈ l) : get l k = some v := by
  induction l with
  | nil => simp at hm
  | cons p l ih =>
    simp only [Tidy, keys, List.map_cons, List.nodup_cons] at h
    rcases List.mem_cons.1 hm with rfl | hm
    · simp [get]
    · have : p.1 ≠ k := fun e => h.1 (by rw [e]; exact List.mem_map.2 ⟨(k, v), hm, rfl⟩)
      simp [get, this, ih h.2 hm]

theorem length_put (l : List (Int × Int)) (k v : Int) : (put l k v).length = l.length + if (get l k).isSome then 0 else 1 := by
  induction l with
  | nil => simp [put, get]
  | cons p l ih =>
    by_cases e : p.1 = k
    · simp [put, get, e]
    · simp [put, get, e, ih]; omega

theorem length_del (l : List (Int × Int)) (k : Int) : (del l k).length + (if (get l k).isSome then 1 else 0) = l.length := by
  induction l with
  | nil => simp [del, get]
  | cons p l ih =>
    by_cases e : p.1 = k
    · simp [del, get, e]
    · simp [del, get, e]; omega

/-- All but the key k. -/
def oth (l : List (Int × Int)) (k : Int) : List (Int × Int) := l.filter (fun p => p.1 != k)

theorem get_none_of {l : List (Int × Int)} {k : Int} (h : ¬ k ∈ keys l) : get l k = none := by
  induction l with
  | nil => rfl
  | cons p l ih =>
    simp [keys] at h
    have h1 : p.1 ≠ k := fun e => h.1 e.symm
    simp [get, h1]
    exact ih (by simp [keys]; exact h.2)

theorem oth_all {l : List (Int × Int)} {k : Int} (h : ¬ k ∈ keys l) : oth l k = l := by
  unfold oth
  rw [List.filter_eq_self]
  intro p hp
  simp
  intro e
  exact h (by rw [← e]; exact List.mem_map.2 ⟨p, hp, rfl⟩)

theorem length_oth {l : List (Int × Int)} (h : Tidy l) (k : Int) : (oth l k).length + (if (get l k).isSome then 1 else 0) = l.length := by
  induction l with
  | nil => simp [oth, get]
  | cons p l ih =>
    have h' := h
    simp only [Tidy, keys, List.map_cons, List.nodup_cons] at h
    by_cases e : p.1 = k
    · have ho : oth l k = l := oth_all (by rw [← e]; exact h.1)
      unfold oth at ho ⊢
      simp [get, e, ho]
    · have := ih h.2
      unfold oth at this ⊢
      simp [get, e]; omega

/-- What 'forget' leaves, nv the new count. -/
def forgot (l : List (Int × Int)) (k nv : Int) : List (Int × Int) := if nv = 0 then del (put l k nv) k else put l k nv
/-- What the law expects. -/
def want (l : List (Int × Int)) (k nv : Int) : List (Int × Int) := oth l k ++ if nv = 0 then [] else [(k, nv)]

theorem forgot_length {l : List (Int × Int)} (h : Tidy l) (k nv : Int) : (forgot l k nv).length = (want l k nv).length := by
  have h1 := length_put l k nv
  have h2 := length_oth h k
  have h3 := length_del (put l k nv) k
  rw [get_put] at h3
  simp only [if_true, Option.isSome_some] at h3
  unfold forgot want
  by_cases e : nv = 0
  · simp only [e, if_true, List.append_nil] at *
    split at h1 <;> simp_all <;> omega
  · simp only [e, if_false, List.length_append, List.length_cons, List.length_nil]
    split at h1 <;> simp_all <;> omega

theorem forgot_get {l : List (Int × Int)} (h : Tidy l) {k nv x v : Int} (hm : (x, v) ∈ want l k nv) : get (forgot l k nv) x = some v := by
  unfold want at hm
  rcases List.mem_append.1 hm with hm | hm
  · unfold oth at hm
    rw [List.mem_filter] at hm
    obtain ⟨hm, hne⟩ := hm
    have hne' : k ≠ x := fun e => by simp [e] at hne
    have hg := get_of_mem h hm
    unfold forgot
    split
    · rw [get_del _ _ _ hne', get_put, if_neg hne', hg]
    · rw [get_put, if_neg hne', hg]
  · by_cases e : nv = 0
    · simp [e] at hm
    · simp only [e, if_false, List.mem_singleton, Prod.mk.injEq] at hm
      obtain ⟨rfl, rfl⟩ := hm
      unfold forgot
      rw [if_neg e, get_put, if_pos rfl]

#print axioms forgot_get
#print axioms forgot_length
end Go.Proofs.Ybulkexpko.Plain
